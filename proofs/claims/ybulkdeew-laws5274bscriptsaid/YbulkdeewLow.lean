/-
  OWN WORK. The walks of (queue).len, inRun, lowest.
-/
import Derived.Test.YbulkdeewQ
import Derived.Test.YbulkdeewHeap
namespace Go.Proofs.Ybulkdeew
open Go.RowKit
attribute [local simp] icells_length swapL_length


theorem below_drewN {B : Nat} {a w : World} (h : Below B a w) (n : Nat) : Below B a (w.drewN n) := ⟨h.os, h.tape, h.output, h.size, h.block⟩

theorem len_any (rb hb : Option Addr) (rl rc hl hc : Nat) (w : World) (h : rl + hl ≤ 1000000) :
    Calls Yba.prog 7 #[.agg #[.slice rb rl rc, .slice hb hl hc]] w fun e w' => e = .returned (.int .i64 ((rl : Int) + (hl : Int))) ∧ Below w.heap.size w w' := by
  go_enter Yba.func7, Yba.ntmps7
  go_wp2
  go_ret
  exact ⟨rfl, (Below.refl _ _).alloc (Nat.le_refl _) _⟩

theorem inRun_noheap (rb hb : Option Addr) (rl rc hc : Nat) (w : World) :
    Calls Yba.prog 9 #[.agg #[.slice rb rl rc, .slice hb 0 hc]] w fun e w' => e = .returned (.bool true) ∧ Below w.heap.size w w' := by
  go_enter Yba.func9, Yba.ntmps9
  go_wp2
  go_quiet (fail)
  go_wp2
  go_ret
  exact ⟨rfl, below_drewN ((Below.refl _ _).alloc (Nat.le_refl _) _) _⟩

theorem inRun_norun (rb hb : Option Addr) (rc hl hc : Nat) (w : World) (hh : 0 < hl) :
    Calls Yba.prog 9 #[.agg #[.slice rb 0 rc, .slice hb hl hc]] w fun e w' => e = .returned (.bool false) ∧ Below w.heap.size w w' := by
  have h0 : ((hl : Int) == 0) = false := beq_eq_false_iff_ne.2 (by omega)
  go_enter Yba.func9, Yba.ntmps9
  go_wp2
  go_quiet (fail)
  go_wp2
  go_ret
  exact ⟨rfl, below_drewN ((Below.refl _ _).alloc (Nat.le_refl _) _) _⟩

theorem cell_alloc_old {w : World} {o : Obj} {a : Addr} {v : Value} (h : w.cell? a = some v) : (w.alloc o).cell? a = some v := by
  rw [← h]
  exact World.cell?_of_block (w := w) (Below.heap_alloc w o a.block (World.block_lt_of_cell? w a h))

theorem inRun_both (g off g' off' : Nat) (rl rc hl hc : Nat) (k k' : Int) (w : World) (hr : 0 < rl) (hh : 0 < hl)
    (c0 : w.cell? ⟨g, off, none⟩ = some (.int .u64 k)) (c1 : w.cell? ⟨g', off', none⟩ = some (.int .u64 k')) :
    Calls Yba.prog 9 #[.agg #[.slice (some ⟨g, off, none⟩) rl rc, .slice (some ⟨g', off', none⟩) hl hc]] w fun e w' => e = .returned (.bool (decide (k < k'))) ∧ Below w.heap.size w w' := by
  have h0 : ((hl : Int) == 0) = false := beq_eq_false_iff_ne.2 (by omega)
  have h1 : (0 : Int) < (rl : Int) := by omega
  have h2 : (0 : Int) < (hl : Int) := by omega
  have c0' := cell_alloc_old (o := .cells #[.slice (some ⟨g, off, none⟩) rl rc, .slice (some ⟨g', off', none⟩) hl hc] 25) c0
  have c1' := cell_alloc_old (o := .cells #[.slice (some ⟨g, off, none⟩) rl rc, .slice (some ⟨g', off', none⟩) hl hc] 25) c1
  clear c0 c1
  go_enter Yba.func9, Yba.ntmps9
  go_wp2
  go_quiet (fail)
  go_wp2
  go_ret
  exact ⟨rfl, below_drewN ((Below.refl _ _).alloc (Nat.le_refl _) _) _⟩


theorem frozen_later {w wx : World} {a : Addr} (hb : Below w.heap.size w wx) (hl : a.block < w.heap.size) (h : w.frozen? a = false) : wx.frozen? a = false := (hb.frozen hl).trans h

/-- 'lowest' where the run's first is the lowest. -/
theorem lowest_run (g off rl rc : Nat) (hv : Value) (k : Int) (p : Option Addr) (w : World) (hr : 0 < rl)
    (c0 : w.cell? ⟨g, off, none⟩ = some (.int .u64 k)) (c1 : w.cell? ⟨g, off + 1, none⟩ = some (.pointer p))
    (hin : ∀ w1, Below w.heap.size w w1 → Calls Yba.prog 9 #[.agg #[.slice (some ⟨g, off, none⟩) rl rc, hv]] w1 fun e w' => e = .returned (.bool true) ∧ Below w1.heap.size w1 w') :
    Calls Yba.prog 6 #[.agg #[.slice (some ⟨g, off, none⟩) rl rc, hv]] w fun e w' => e = .returned (.agg #[.int .u64 k, .pointer p]) ∧ Below w.heap.size w w' := by
  have hg : g < w.heap.size := World.block_lt_of_cell? w _ c0
  have h1 : (0 : Int) < (rl : Int) := by omega
  have HH : Hid (∀ w1, Below w.heap.size w w1 → Calls Yba.prog 9 #[.agg #[.slice (some ⟨g, off, none⟩) rl rc, hv]] w1 fun e w' => e = .returned (.bool true) ∧ Below w1.heap.size w1 w') := hin
  clear hin
  go_enter Yba.func6, Yba.ntmps6
  go_wp2_with fail
  have B1 : Below w.heap.size w ((w.alloc (Obj.cells #[Value.slice (some ⟨g, off, none⟩) rl rc, hv] 25)).alloc (Obj.cells #[Value.int IntKind.u64 0, Value.pointer none] 39)) := ((Below.refl _ _).alloc (Nat.le_refl _) _).alloc (by simp) _
  refine (HH.out _ B1).mono ?_
  rintro e w1 ⟨rfl, hb⟩
  have hz : w.heap.size + 1 < w1.heap.size := by have := hb.size; simp at this; omega
  have B2 : Below w.heap.size w w1 := B1.trans (hb.mono (by simp; omega))
  have d0 : w1.cell? ⟨g, off, none⟩ = some (.int .u64 k) := cell_later B2 c0
  have d1 : w1.cell? ⟨g, off + 1, none⟩ = some (.pointer p) := cell_later B2 c1
  have d2 : w1.cell? ⟨w.heap.size, 0, none⟩ = some (.slice (some ⟨g, off, none⟩) rl rc) := cell_later hb (by simp)
  have d3 : w1.cell? ⟨w.heap.size + 1, 0, none⟩ = some (.int .u64 0) := cell_later hb (by simp)
  have d4 : w1.cell? ⟨w.heap.size + 1, 1, none⟩ = some (.pointer none) := cell_later hb (by simp)
  have d5 : w1.frozen? ⟨w.heap.size + 1, 0, none⟩ = false := frozen_later hb (by simp) (by simp)
  have d6 : w1.frozen? ⟨w.heap.size + 1, 1, none⟩ = false := frozen_later hb (by simp) (by simp)
  clear hb B1 HH c0 c1
  go_wp2
  exact bodyPost_ret (v := .agg #[.int .u64 k, .pointer p]) (by simp [results, Yba.results6, go_sem, d3, d4]) rfl ⟨rfl, (B2.setCell (by simp) _).setCell (by simp) _⟩


/-- 'lowest' where the heap's first is the lowest. -/
theorem lowest_heap (g off hl hc : Nat) (rv : Value) (k : Int) (p : Option Addr) (w : World) (hr : 0 < hl)
    (c0 : w.cell? ⟨g, off, none⟩ = some (.int .u64 k)) (c1 : w.cell? ⟨g, off + 1, none⟩ = some (.pointer p))
    (hin : ∀ w1, Below w.heap.size w w1 → Calls Yba.prog 9 #[.agg #[rv, .slice (some ⟨g, off, none⟩) hl hc]] w1 fun e w' => e = .returned (.bool false) ∧ Below w1.heap.size w1 w') :
    Calls Yba.prog 6 #[.agg #[rv, .slice (some ⟨g, off, none⟩) hl hc]] w fun e w' => e = .returned (.agg #[.int .u64 k, .pointer p]) ∧ Below w.heap.size w w' := by
  have hg : g < w.heap.size := World.block_lt_of_cell? w _ c0
  have h1 : (0 : Int) < (hl : Int) := by omega
  have HH : Hid (∀ w1, Below w.heap.size w w1 → Calls Yba.prog 9 #[.agg #[rv, .slice (some ⟨g, off, none⟩) hl hc]] w1 fun e w' => e = .returned (.bool false) ∧ Below w1.heap.size w1 w') := hin
  clear hin
  go_enter Yba.func6, Yba.ntmps6
  go_wp2_with fail
  have B1 : Below w.heap.size w ((w.alloc (Obj.cells #[rv, Value.slice (some ⟨g, off, none⟩) hl hc] 25)).alloc (Obj.cells #[Value.int IntKind.u64 0, Value.pointer none] 39)) := ((Below.refl _ _).alloc (Nat.le_refl _) _).alloc (by simp) _
  refine (HH.out _ B1).mono ?_
  rintro e w1 ⟨rfl, hb⟩
  have hz : w.heap.size + 1 < w1.heap.size := by have := hb.size; simp at this; omega
  have B2 : Below w.heap.size w w1 := B1.trans (hb.mono (by simp; omega))
  have d0 : w1.cell? ⟨g, off, none⟩ = some (.int .u64 k) := cell_later B2 c0
  have d1 : w1.cell? ⟨g, off + 1, none⟩ = some (.pointer p) := cell_later B2 c1
  have d2 : w1.cell? ⟨w.heap.size, 1, none⟩ = some (.slice (some ⟨g, off, none⟩) hl hc) := cell_later hb (by simp)
  have d3 : w1.cell? ⟨w.heap.size + 1, 0, none⟩ = some (.int .u64 0) := cell_later hb (by simp)
  have d4 : w1.cell? ⟨w.heap.size + 1, 1, none⟩ = some (.pointer none) := cell_later hb (by simp)
  have d5 : w1.frozen? ⟨w.heap.size + 1, 0, none⟩ = false := frozen_later hb (by simp) (by simp)
  have d6 : w1.frozen? ⟨w.heap.size + 1, 1, none⟩ = false := frozen_later hb (by simp) (by simp)
  clear hb B1 HH c0 c1
  go_wp2
  exact bodyPost_ret (v := .agg #[.int .u64 k, .pointer p]) (by simp [results, Yba.results6, go_sem, d3, d4]) rfl ⟨rfl, (B2.setCell (by simp) _).setCell (by simp) _⟩

/-- Is the lowest the run's first? -/
def inRunB : Its → Its → Bool
  | _, [] => true
  | [], _ :: _ => false
  | x :: _, y :: _ => decide (x.1 < y.1)
def low (run hp : Its) : Int × Nat := if inRunB run hp then run.headD (0, 0) else hp.headD (0, 0)

theorem Owns.head {w : World} {v : Value} {x : Int × Nat} {xs : Its} (h : Owns w v (x :: xs)) : ∃ g off cap, v = .slice (some ⟨g, off, none⟩) (xs.length + 1) cap ∧
    w.cell? ⟨g, off, none⟩ = some (.int .u64 x.1) ∧ w.cell? ⟨g, off + 1, none⟩ = some (.pointer (some ⟨x.2, 0, none⟩)) := by
  obtain ⟨g, off, cap, rfl, _⟩ := h.some_of (by simp)
  refine ⟨g, off, cap, rfl, ?_, ?_⟩
  · have := OwnsR.cell h 0 (by simp); simpa [icells] using this
  · have := OwnsR.cell h 1 (by simp; omega); simpa [icells] using this

theorem Owns.below {w w' : World} {v : Value} {xs : Its} (h : Owns w v xs) (hb : Below w.heap.size w w') : Owns w' v xs := OwnsR.below h hb

/-- 'inRun' of a queue that holds something. -/
theorem inRun_any (rv hv : Value) (run hp : Its) (w : World) (hr : Owns w rv run) (hh : Owns w hv hp) :
    Calls Yba.prog 9 #[.agg #[rv, hv]] w fun e w' => e = .returned (.bool (inRunB run hp)) ∧ Below w.heap.size w w' := by
  match run, hp, hr, hh with
  | run, [], hr, hh =>
    obtain ⟨a, c, rfl⟩ := hr.slice_of
    obtain ⟨a', c', rfl⟩ := hh.slice_of
    have : inRunB run [] = true := by cases run <;> rfl
    rw [this]
    exact inRun_noheap _ _ _ _ _ w
  | [], y :: ys, hr, hh =>
    obtain ⟨a, c, rfl⟩ := hr.slice_of
    obtain ⟨a', c', rfl⟩ := hh.slice_of
    exact inRun_norun _ _ _ _ _ w (by simp)
  | x :: xs, y :: ys, hr, hh =>
    obtain ⟨g, off, cap, rfl, c0, _⟩ := hr.head
    obtain ⟨g', off', cap', rfl, c0', _⟩ := hh.head
    exact inRun_both g off g' off' _ _ _ _ x.1 y.1 w (by omega) (by omega) c0 c0'

theorem lowest_any (rv hv : Value) (run hp : Its) (w : World) (hr : Owns w rv run) (hh : Owns w hv hp) (hne : 0 < run.length + hp.length) :
    Calls Yba.prog 6 #[.agg #[rv, hv]] w fun e w' => e = .returned (.agg #[.int .u64 (low run hp).1, .pointer (some ⟨(low run hp).2, 0, none⟩)]) ∧ Below w.heap.size w w' := by
  have hin : ∀ w1, Below w.heap.size w w1 → Calls Yba.prog 9 #[.agg #[rv, hv]] w1 fun e w' => e = .returned (.bool (inRunB run hp)) ∧ Below w1.heap.size w1 w' :=
    fun w1 hb => inRun_any rv hv run hp w1 (hr.below hb) (hh.below hb)
  cases hb : inRunB run hp with
  | true =>
    rw [hb] at hin
    match run, hr, hb with
    | [], _, hb =>
      match hp, hb with
      | [], _ => simp at hne
      | y :: ys, hb => simp [inRunB] at hb
    | x :: xs, hr, hb =>
      obtain ⟨g, off, cap, rfl, c0, c1⟩ := hr.head
      have e : low (x :: xs) hp = x := by simp [low, hb]
      rw [e]
      exact lowest_run g off _ cap hv x.1 _ w (by omega) c0 c1 hin
  | false =>
    rw [hb] at hin
    match hp, hh, hb with
    | [], _, hb => cases run <;> simp [inRunB] at hb
    | y :: ys, hh, hb =>
      obtain ⟨g, off, cap, rfl, c0, c1⟩ := hh.head
      have e : low run (y :: ys) = y := by simp [low, hb]
      rw [e]
      exact lowest_heap g off _ cap rv y.1 _ w (by omega) c0 c1 hin

theorem qlen_any (rv hv : Value) (run hp : Its) (w : World) (hr : Owns w rv run) (hh : Owns w hv hp) (hb : run.length + hp.length ≤ 1000000) :
    Calls Yba.prog 7 #[.agg #[rv, hv]] w fun e w' => e = .returned (.int .i64 ((run.length : Int) + (hp.length : Int))) ∧ Below w.heap.size w w' := by
  obtain ⟨a, c, rfl⟩ := hr.slice_of
  obtain ⟨a', c', rfl⟩ := hh.slice_of
  exact len_any _ _ _ _ _ _ w hb

/-- The plain law of 'low'. -/
def Asc (xs : Its) : Prop := xs.Pairwise fun a b => a.1 ≤ b.1
theorem low_mem (run hp : Its) (hne : 0 < run.length + hp.length) : low run hp ∈ run ++ hp := by
  unfold low
  match run, hp with
  | [], [] => simp at hne
  | x :: xs, [] => simp [inRunB]
  | [], y :: ys => simp [inRunB]
  | x :: xs, y :: ys => by_cases h : x.1 < y.1 <;> simp [inRunB, h]
theorem low_least (run hp : Its) (ha : Asc run) (hh : IsHeap hp) : ∀ y ∈ run ++ hp, (low run hp).1 ≤ y.1 := by
  have hrun : ∀ x xs, run = x :: xs → ∀ y ∈ run, x.1 ≤ y.1 := by
    rintro x xs rfl y hy
    rcases List.mem_cons.1 hy with rfl | hy
    · exact Int.le_refl _
    · exact (List.pairwise_cons.1 ha).1 y hy
  have hhp : ∀ x xs, hp = x :: xs → ∀ y ∈ hp, x.1 ≤ y.1 := by
    rintro x xs rfl y hy
    obtain ⟨j, hj, rfl⟩ := List.getElem_of_mem hy
    have := heap_min _ hh j hj
    unfold K at this
    rw [List.getD_eq_getElem?_getD, List.getD_eq_getElem?_getD, List.getElem?_eq_getElem hj] at this
    exact this
  intro y hy
  unfold low
  match run, hp, hrun, hhp with
  | [], [], _, _ => simp at hy
  | x :: xs, [], hrun, _ => simp only [List.append_nil] at hy; simpa [inRunB] using hrun x xs rfl y hy
  | [], z :: zs, _, hhp => simp only [List.nil_append] at hy; simpa [inRunB] using hhp z zs rfl y hy
  | x :: xs, z :: zs, hrun, hhp =>
    have h1 := hrun x xs rfl
    have h2 := hhp z zs rfl
    by_cases h : x.1 < z.1
    · simp only [inRunB, h, decide_true, if_true, List.headD_cons]
      rcases List.mem_append.1 hy with hy | hy
      · exact h1 y hy
      · have := h2 y hy; omega
    · simp only [inRunB, h, decide_false, Bool.false_eq_true, if_false, List.headD_cons]
      rcases List.mem_append.1 hy with hy | hy
      · have := h1 y hy; omega
      · exact h2 y hy

end Go.Proofs.Ybulkdeew
