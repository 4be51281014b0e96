import Derived.Test.YbulkdeewMem
import Derived.Test.YbulkdeewRows
import Derived.ProofKit
import Derived.Deep.QuietTactic
import Derived.BigQuiet
import Derived.WalkSpells
import Derived.Laws.ResultCell
import Derived.WalkSmall
namespace Go.Proofs.Ybulkdeew
open Go.RowKit

def icells (xs : List (Int × Nat)) : List Value := xs.flatMap fun x => [.int .u64 x.1, .pointer (some ⟨x.2, 0, none⟩)]

theorem icells_length (xs : List (Int × Nat)) : (icells xs).length = xs.length * 2 := by
  induction xs with
  | nil => rfl
  | cons x xs ih => simp [icells] at ih ⊢; omega
attribute [local simp] icells_length
theorem icells_append (xs ys : List (Int × Nat)) : icells (xs ++ ys) = icells xs ++ icells ys := by simp [icells]
theorem icells_cons (x : Int × Nat) (xs : List (Int × Nat)) : icells (x :: xs) = .int .u64 x.1 :: .pointer (some ⟨x.2, 0, none⟩) :: icells xs := rfl
theorem icells_key : ∀ (xs : List (Int × Nat)) (j : Nat) (x : Int × Nat), xs[j]? = some x → (icells xs)[j * 2]? = some (.int .u64 x.1)
  | [], _, _, h => by simp at h
  | y :: ys, 0, x, h => by simp at h; subst h; rfl
  | y :: ys, j + 1, x, h => by
    have := icells_key ys j x (by simpa using h)
    rw [icells_cons, show (j + 1) * 2 = j * 2 + 1 + 1 by omega, List.getElem?_cons_succ, List.getElem?_cons_succ, this]
theorem icells_ptr : ∀ (xs : List (Int × Nat)) (j : Nat) (x : Int × Nat), xs[j]? = some x → (icells xs)[j * 2 + 1]? = some (.pointer (some ⟨x.2, 0, none⟩))
  | [], _, _, h => by simp at h
  | y :: ys, 0, x, h => by simp at h; subst h; rfl
  | y :: ys, j + 1, x, h => by
    have := icells_ptr ys j x (by simpa using h)
    rw [icells_cons, show (j + 1) * 2 + 1 = j * 2 + 1 + 1 + 1 by omega, List.getElem?_cons_succ, List.getElem?_cons_succ, this]

/-- The slice v holds the items xs. -/
def Owns (w : World) (v : Value) (xs : List (Int × Nat)) : Prop := OwnsR w 39 2 v xs.length (icells xs)

structure QSt (w : World) (qb : Nat) (rv hv : Value) (run hp : List (Int × Nat)) : Prop where
  q : w.heap[qb]? = some (.cells #[rv, hv] 25 (0, 0))
  run : Owns w rv run
  hp : Owns w hv hp
  apart : ∀ k, rv.ownBlock = some k → hv.ownBlock ≠ some k
  base : ∀ k, rv.ownBlock = some k ∨ hv.ownBlock = some k → qb < k

theorem Yba.info39 : (Yba.prog.info? 39).map (fun i => (i.zero, i.size, i.bytes)) = some (some (.agg #[.int .u64 0, .pointer none]), 2, 16) := by kernel_rfl

theorem QSt.lt {w : World} {qb : Nat} {rv hv : Value} {run hp : List (Int × Nat)} (h : QSt w qb rv hv run hp) : qb < w.heap.size := (Array.getElem?_eq_some_iff.1 h.q).1

/-- The queue's block is none of the rows'. -/
theorem QSt.ne_run {w : World} {qb : Nat} {rv hv : Value} {run hp : List (Int × Nat)} (h : QSt w qb rv hv run hp) (k : Nat) (hk : rv.ownBlock = some k) : k ≠ qb := by
  rintro rfl
  obtain ⟨_, cur, hc⟩ := h.run.ownBlock_lt k hk
  rw [h.q] at hc
  simp at hc
theorem QSt.ne_hp {w : World} {qb : Nat} {rv hv : Value} {run hp : List (Int × Nat)} (h : QSt w qb rv hv run hp) (k : Nat) (hk : hv.ownBlock = some k) : k ≠ qb := by
  rintro rfl
  obtain ⟨_, cur, hc⟩ := h.hp.ownBlock_lt k hk
  rw [h.q] at hc
  simp at hc

/-- Behind 'q.run = ..': the run is another row. -/
theorem QSt.setRun {w w1 : World} {qb : Nat} {rv hv rv' : Value} {run run' hp : List (Int × Nat)} (h : QSt w qb rv hv run hp) (hc : Ch (fun k => rv.ownBlock = some k) w w1)
    (hown : Owns w1 rv' run') (hnew : ∀ k, rv'.ownBlock = some k → rv.ownBlock = some k ∨ w.heap.size ≤ k) :
    QSt (w1.setCell ⟨qb, 0, none⟩ rv') qb rv' hv run' hp ∧ Ch (fun x => x = qb ∨ rv.ownBlock = some x) w (w1.setCell ⟨qb, 0, none⟩ rv') := by
  have hq1 : w1.heap[qb]? = some (.cells #[rv, hv] 25 (0, 0)) := (hc.block qb h.lt (fun e => h.ne_run qb e rfl)).trans h.q
  have hne : ∀ k, rv'.ownBlock = some k → k ≠ qb := by
    rintro k hk rfl
    obtain ⟨_, cur, hcc⟩ := hown.ownBlock_lt k hk
    rw [hq1] at hcc
    simp at hcc
  refine ⟨⟨?_, hown.stored_other _ _ hne, (h.hp.ch hc (fun k hk e => h.apart k e hk)).stored_other _ _ h.ne_hp, fun k hk e => ?_, fun k hk => ?_⟩, ?_⟩
  · rw [heap_setCell_same w1 qb 0 _ _ _ hq1]; rfl
  · rcases hnew k hk with h1 | h1
    · exact h.apart k h1 e
    · have := (h.hp.ownBlock_lt k e).1; omega
  · rcases hk with hk | hk
    · rcases hnew k hk with h1 | h1
      · exact h.base k (.inl h1)
      · exact Nat.lt_of_lt_of_le h.lt h1
    · exact h.base k (.inr hk)
  · exact (hc.mono (fun x _ e => .inr e)).setCell _ _ (fun _ => .inl rfl)

/-- Behind 'q.heap = ..'. -/
theorem QSt.setHp {w w1 : World} {qb : Nat} {rv hv hv' : Value} {run hp hp' : List (Int × Nat)} (h : QSt w qb rv hv run hp) (hc : Ch (fun k => hv.ownBlock = some k) w w1)
    (hown : Owns w1 hv' hp') (hnew : ∀ k, hv'.ownBlock = some k → hv.ownBlock = some k ∨ w.heap.size ≤ k) :
    QSt (w1.setCell ⟨qb, 1, none⟩ hv') qb rv hv' run hp' ∧ Ch (fun x => x = qb ∨ hv.ownBlock = some x) w (w1.setCell ⟨qb, 1, none⟩ hv') := by
  have hq1 : w1.heap[qb]? = some (.cells #[rv, hv] 25 (0, 0)) := (hc.block qb h.lt (fun e => h.ne_hp qb e rfl)).trans h.q
  have hne : ∀ k, hv'.ownBlock = some k → k ≠ qb := by
    rintro k hk rfl
    obtain ⟨_, cur, hcc⟩ := hown.ownBlock_lt k hk
    rw [hq1] at hcc
    simp at hcc
  refine ⟨⟨?_, (h.run.ch hc (fun k hk e => h.apart k hk e)).stored_other _ _ h.ne_run, hown.stored_other _ _ hne, fun k e hk => ?_, fun k hk => ?_⟩, ?_⟩
  · rw [heap_setCell_same w1 qb 1 _ _ _ hq1]; rfl
  · rcases hnew k hk with h1 | h1
    · exact h.apart k e h1
    · have := (h.run.ownBlock_lt k e).1; omega
  · rcases hk with hk | hk
    · exact h.base k (.inl hk)
    · rcases hnew k hk with h1 | h1
      · exact h.base k (.inr h1)
      · exact Nat.lt_of_lt_of_le h.lt h1
  · exact (hc.mono (fun x _ e => .inr e)).setCell _ _ (fun _ => .inl rfl)

theorem ch_new {S : Nat → Prop} (w w1 : World) (nq : Nat) (o : Obj) (h : Ch S ((w.drewN nq).alloc o) w1) : Ch S w w1 :=
  (((Ch.refl S w).drewN nq).alloc o).trans h (fun _ _ t => t)

theorem two_one (a b : Value) (ha : a.oneCell' = true) (hb : b.oneCell' = true) : ∀ u ∈ [a, b], u.oneCell' = true := by
  intro u hu
  simp at hu
  rcases hu with rfl | rfl <;> assumption

set_option maxHeartbeats 400000 in
/-- 'push' where the run is empty. -/
theorem push_empty (qb : Nat) (rv hv : Value) (hp : List (Int × Nat)) (k : Int) (hb : Nat) (w : World) (hq : QSt w qb rv hv [] hp) :
    Calls Yba.prog 5 #[.pointer (some ⟨qb, 0, none⟩), .int .u64 k, .pointer (some ⟨hb, 0, none⟩)] w fun e w' => e = .returned (.tuple #[]) ∧ ∃ rv', QSt w' qb rv' hv [(k, hb)] hp ∧
      Ch (fun x => x = qb ∨ rv.ownBlock = some x) w w' := by
  obtain ⟨i0, hi, hz0, hz1, hz2⟩ := info_parts Yba.info39
  obtain ⟨ao, cap, rfl⟩ := hq.run.slice_of
  have c0 : w.cell? ⟨qb, 0, none⟩ = some (.slice ao 0 cap) := by rw [cell_of_row w qb _ _ _ _ hq.q]; rfl
  go_enter Yba.func5, Yba.ntmps5
  go_wp2
  go_quiet (fail)
  go_wp2_with (at_builtin; refine wpList_append_ownsR _ rfl _ _ 23 rfl 39 i0 (.agg #[.int .u64 0, .pointer none]) 2 16 Yba.underlying23 hi hz0 hz1 hz2 rfl (by decide) (.slice ao 0 cap) 0 [] rfl ?own _ [.int .u64 k, .pointer (some ⟨hb, 0, none⟩)] rfl rfl ?c1 ?c2 (by decide) (by decide) ?_)
  case own => exact (hq.run.drewN nq).alloc _
  case c1 => exact cell_two_new (w.drewN nq) _ _ _
  case c2 => exact two_one _ _ rfl rfl
  intro ao' cap' w1 hown hch hnew
  have hch2 := ch_new _ _ _ _ hch
  have hq1 : w1.heap[qb]? = some (.cells #[.slice ao 0 cap, hv] 25 (0, 0)) := (hch2.block qb hq.lt (fun e => hq.ne_run qb e rfl)).trans hq.q
  have d0 : w1.cell? ⟨qb, 0, none⟩ = some (.slice ao 0 cap) := by rw [cell_of_row w1 qb _ _ _ _ hq1]; rfl
  have f0 : w1.frozen? ⟨qb, 0, none⟩ = false := frozen_of_row w1 qb _ _ _ hq1
  have FIN := hq.setRun (run' := [(k, hb)]) hch2 hown (fun k hk => by rcases hnew k hk with h | h; exact .inl h; exact .inr (by omega))
  have HF : Hid _ := FIN
  clear FIN hown hch hnew hch2 hq1 c0
  go_wp2
  refine bodyPost_ret (results_none rfl _ _ _) rfl ?_
  exact ⟨rfl, _, HF.out.1, HF.out.2⟩

set_option maxHeartbeats 400000 in
/-- 'push' where the run is not empty and its last is not above. -/
theorem push_run (qb : Nat) (rv hv : Value) (run hp : List (Int × Nat)) (m : Nat) (hm : run.length = m + 1) (k l : Int) (lh hb : Nat) (w : World) (hq : QSt w qb rv hv run hp) (hl : run[m]? = some (l, lh)) (hlk : l ≤ k) (hbig : m ≤ 100000) :
    Calls Yba.prog 5 #[.pointer (some ⟨qb, 0, none⟩), .int .u64 k, .pointer (some ⟨hb, 0, none⟩)] w fun e w' => e = .returned (.tuple #[]) ∧ ∃ rv', QSt w' qb rv' hv (run ++ [(k, hb)]) hp ∧
      Ch (fun x => x = qb ∨ rv.ownBlock = some x) w w' := by
  obtain ⟨i0, hi, hz0, hz1, hz2⟩ := info_parts Yba.info39
  obtain ⟨g, off, cap, rfl, hcap⟩ := hq.run.some_of (by omega)
  have hown := hq.run
  unfold Owns at hown
  rw [hm] at hown hcap
  have c0 : w.cell? ⟨qb, 0, none⟩ = some (.slice (some ⟨g, off, none⟩) (m + 1) cap) := by rw [cell_of_row w qb _ _ _ _ hq.q, hm]; rfl
  have cl : w.cell? ⟨g, off + m * 2, none⟩ = some (.int .u64 l) := by
    rw [hown.cell (m * 2) (by omega), icells_key run m _ hl]
  have t1 : (((m : Nat) : Int) + 1 == 0) = false := beq_eq_false_iff_ne.2 (by omega)
  have HO : Hid (OwnsR w 39 2 (.slice (some ⟨g, off, none⟩) (m + 1) cap) (m + 1) (icells run)) := hown
  clear hl hown
  go_enter Yba.func5, Yba.ntmps5
  go_wp2
  go_quiet (fail)
  go_wp2_with (at_builtin; refine wpList_append_ownsR _ rfl _ _ 23 rfl 39 i0 (.agg #[.int .u64 0, .pointer none]) 2 16 Yba.underlying23 hi hz0 hz1 hz2 rfl (by decide) (.slice (some ⟨g, off, none⟩) (m + 1) cap) (m + 1) (icells run) rfl ?own _ [.int .u64 k, .pointer (some ⟨hb, 0, none⟩)] rfl rfl ?c1 ?c2 ?b1 ?b2 ?_)
  case own => exact (HO.out.drewN nq).alloc _
  case c1 => exact cell_two_new (w.drewN nq) _ _ _
  case c2 => exact two_one _ _ rfl rfl
  case b1 => unfold maxLen; omega
  case b2 => omega
  intro ao' cap' w1 hown hch hnew
  rw [← hm] at hown hch hnew
  have hch2 := ch_new _ _ _ _ hch
  have hq1 : w1.heap[qb]? = some (.cells #[.slice (some ⟨g, off, none⟩) run.length cap, hv] 25 (0, 0)) := (hch2.block qb hq.lt (fun e => hq.ne_run qb e rfl)).trans hq.q
  have d0 : w1.cell? ⟨qb, 0, none⟩ = some (.slice (some ⟨g, off, none⟩) (m + 1) cap) := by rw [cell_of_row w1 qb _ _ _ _ hq1, hm]; rfl
  have f0 : w1.frozen? ⟨qb, 0, none⟩ = false := frozen_of_row w1 qb _ _ _ hq1
  have FIN := hq.setRun (run' := run ++ [(k, hb)]) (rv' := .slice ao' (run.length + 1) cap') hch2 (by unfold Owns; rw [icells_append, List.length_append]; exact hown) (fun k hk => by rcases hnew k hk with h | h; exact .inl h; exact .inr (by omega))
  rw [hm] at FIN
  have HF : Hid _ := FIN
  clear FIN hown hch hnew hch2 hq1 c0 HO
  go_wp2
  refine bodyPost_ret (results_none rfl _ _ _) rfl ?_
  exact ⟨rfl, _, HF.out.1, HF.out.2⟩
end Go.Proofs.Ybulkdeew
