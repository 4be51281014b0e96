/-
  OWN WORK. mostHeld and grow.
-/
import Derived.Test.YbulkdeicRows
import Derived.Test.YbulkdeicCopy
import Derived.ProofKit
import Derived.WalkSpells
import Derived.Deep.QuietTactic
import Derived.BigQuiet
namespace Go.Proofs.Ybulkdeic
open Go.RowKit

theorem info37 : (Yba.prog.info? 37).map (fun i => (i.zero, i.size, i.bytes)) = some (some (.agg #[.int .i32 0, .int .i32 0]), 2, 8) := by kernel_rfl

theorem tdiv4_bd (M : Int) (h0 : -65536 ≤ M) (h1 : M ≤ 65536) : -16384 ≤ M.tdiv 4 ∧ M.tdiv 4 ≤ 16384 := by
  rcases Int.le_total 0 M with h | h
  · rw [Int.tdiv_eq_ediv_of_nonneg h]
    omega
  · have e : M.tdiv 4 = -((-M).tdiv 4) := by rw [Int.neg_tdiv, Int.neg_neg]
    rw [e, Int.tdiv_eq_ediv_of_nonneg (by omega : 0 ≤ -M)]
    omega

set_option maxHeartbeats 400000 in
theorem mostHeld_any (rb : Nat) (M T : Int) (w : World) (h0 : -65536 ≤ M) (h1 : M ≤ 65536) (hT : M.tdiv 4 = T) (hc : w.cell? ⟨rb, 1, none⟩ = some (.int .i64 M)) :
    Calls Yba.prog 5 #[.pointer (some ⟨rb, 0, none⟩)] w fun e w' => e = .returned (.int .i64 (M + T)) ∧ ∃ q, w' = w.drewN q := by
  have hb := tdiv4_bd M h0 h1
  rw [hT] at hb
  go_enter Yba.func5, Yba.ntmps5
  go_wp2
  go_quiet (fail)
  go_wp2
  go_ret
  exact ⟨rfl, _, rfl⟩

/-- The capacity that grow takes. -/
def wantCap (l c : Nat) (n others M T : Int) : Int := max ((l : Int) + n) (min (2 * (c : Int)) (M + T - others))

set_option maxHeartbeats 400000 in
theorem grow_same (rb g l c : Nat) (n others : Int) (w : World) (hl : l ≤ 2000) (hc : c ≤ 4000) (hn0 : -1024 ≤ n) (hn1 : n ≤ 1024) (h : (l : Int) + n ≤ (c : Int)) :
    Calls Yba.prog 4 #[.pointer (some ⟨rb, 0, none⟩), .slice (some ⟨g, 0, none⟩) l c, .int .i64 n, .int .i64 others] w fun e w' => e = .returned (.slice (some ⟨g, 0, none⟩) l c) ∧ w' = w := by
  go_enter Yba.func4, Yba.ntmps4
  go_wp2
  go_ret
  exact ⟨rfl, rfl⟩

set_option maxHeartbeats 400000 in
theorem grow_new (rb g l c : Nat) (n others M T : Int) (xs : List Value) (w : World) (hl : l ≤ 2000) (hc : c ≤ 4000) (hn0 : -1024 ≤ n) (hn1 : n ≤ 1024) (ho0 : -4096 ≤ others) (ho1 : others ≤ 4096) (h0 : -65536 ≤ M) (h1 : M ≤ 65536) (hT : M.tdiv 4 = T)
    (h : ¬ (l : Int) + n ≤ (c : Int)) (hm : w.cell? ⟨rb, 1, none⟩ = some (.int .i64 M)) (hx1 : ∀ v ∈ xs, v.oneCell' = true) (hx : OwnsR w 37 2 (.slice (some ⟨g, 0, none⟩) l c) l xs) :
    Calls Yba.prog 4 #[.pointer (some ⟨rb, 0, none⟩), .slice (some ⟨g, 0, none⟩) l c, .int .i64 n, .int .i64 others] w fun e w' =>
      ∃ k : Nat, (k : Int) = wantCap l c n others M T ∧ e = .returned (.slice (some ⟨w.heap.size, 0, none⟩) l k) ∧ OwnsR w' 37 2 (.slice (some ⟨w.heap.size, 0, none⟩) l k) l xs ∧ Below w.heap.size w w' := by
  have hb := tdiv4_bd M h0 h1
  rw [hT] at hb
  have HX : Hid (OwnsR w 37 2 (.slice (some ⟨g, 0, none⟩) l c) l xs ∧ ∀ v ∈ xs, v.oneCell' = true) := ⟨hx, hx1⟩
  have hle : decide ((l : Int) + n ≤ (c : Int)) = false := decide_eq_false h
  have hlc : l ≤ c := by obtain ⟨cur, _, _, h3⟩ := hx.block; exact h3
  obtain ⟨i0, hi, hz0, hz1, hz2⟩ := info_parts info37
  clear hx hx1
  obtain ⟨k, HK⟩ : ∃ k : Nat, Hid (wantCap l c n others M T = (k : Int)) := ⟨(wantCap l c n others M T).toNat, by show _ = _; unfold wantCap; omega⟩
  have hlk : l ≤ k := by have := HK.out; unfold wantCap at this; omega
  have hlt : (c : Int) < (l : Int) + n := by omega
  have hways : (M + T - others < 2 * (c : Int) ∧ (l : Int) + n < M + T - others) ∨ (M + T - others < 2 * (c : Int) ∧ M + T - others ≤ (l : Int) + n) ∨ (2 * (c : Int) ≤ M + T - others ∧ (l : Int) + n < 2 * (c : Int)) ∨ (2 * (c : Int) ≤ M + T - others ∧ 2 * (c : Int) ≤ (l : Int) + n) := by omega
  rcases hways with ⟨hw1, hw2⟩ | ⟨hw1, hw2⟩ | ⟨hw1, hw2⟩ | ⟨hw1, hw2⟩
  · go_enter Yba.func4, Yba.ntmps4
    go_wp2_with fail
    refine (mostHeld_any rb M T w h0 h1 hT hm).mono ?_
    rintro e w1 ⟨rfl, q, rfl⟩
    have hsz : (madeCells #[.int .i32 0, .int .i32 0] (k * 2)).size = k * 2 := size_madeCells _ _
    have OW : Hid (OwnsR ((w.drewN q).alloc (.cells (madeCells #[.int .i32 0, .int .i32 0] (k * 2)) 37)) 37 2 (.slice (some ⟨g, 0, none⟩) l c) l xs) := OwnsR.alloc (OwnsR.drewN HX.out.1 q) _
    have HG : Hid (((w.drewN q).alloc (.cells (madeCells #[.int .i32 0, .int .i32 0] (k * 2)) 37)).heap[w.heap.size]? = some (.cells (madeCells #[.int .i32 0, .int .i32 0] (k * 2)) 37 (0, 0))) := by show (w.heap.push _)[w.heap.size]? = _; simp
    have BB : Hid (Below w.heap.size w ((w.drewN q).alloc (.cells (madeCells #[.int .i32 0, .int .i32 0] (k * 2)) 37))) := Below.alloc (B := w.heap.size) (a := w) (w := w.drewN q) ⟨rfl, rfl, rfl, Nat.le_refl _, fun _ _ => rfl⟩ (Nat.le_refl _) _
    have HSZ : Hid ((madeCells #[.int .i32 0, .int .i32 0] (k * 2)).size = k * 2) := hsz
    clear hsz
    go_wp2_with (at_make; refine wpList_make_lc _ rfl _ _ 22 rfl 37 i0 (.agg #[.int .i32 0, .int .i32 0]) 2 Yba.underlying22 hi hz0 hz1 .i64 .i64 _ _ l k rfl rfl rfl ?hC_0 hlk ?b2_0 ?b3_0 ?_)
    case hC_0 => rw [← HK.out]; unfold wantCap; omega
    case b2_0 => rw [hz2]; have := HK.out; unfold wantCap at this; omega
    case b3_0 => have := HK.out; unfold wantCap at this; omega
    obtain ⟨w2, hrun, hh, hbel, _⟩ := run_copy_head (P := Yba.prog) ((w.drewN q).alloc (.cells (madeCells #[.int .i32 0, .int .i32 0] (k * 2)) 37)) 22 22 3 37 2 Yba.underlying22 (by kernel_rfl) (some ⟨w.heap.size, 0, none⟩) (some ⟨g, 0, none⟩) l k c w.heap.size (madeCells #[.int .i32 0, .int .i32 0] (k * 2)) 37 HG.out xs HX.out.1.1 (fun _ => ⟨rfl, _, rfl, fun j v hj => by
      have hjl : j < l * 2 := by rw [← HX.out.1.1]; exact (List.getElem?_eq_some_iff.1 hj).1
      have := OW.out.cell j hjl
      rw [Addr.add_lit, ← hj]
      exact this⟩) (by rw [HSZ.out, HX.out.1.1]; omega) HX.out.2
    have RES : Hid (OwnsR w2 37 2 (.slice (some ⟨w.heap.size, 0, none⟩) l k) l xs ∧ Below w.heap.size w w2) := ⟨OwnsR.filled HX.out.1.1 HSZ.out hlk hh, hbel _ _ BB.out (Nat.le_refl _)⟩
    clear hh hbel
    go_wp2
    rw [hrun]
    simp only [Result.andThen]
    rw [Oper.upon_value]
    go_wp2
    go_ret
    exact ⟨k, HK.out.symm, rfl, RES.out⟩
  · go_enter Yba.func4, Yba.ntmps4
    go_wp2_with fail
    refine (mostHeld_any rb M T w h0 h1 hT hm).mono ?_
    rintro e w1 ⟨rfl, q, rfl⟩
    have hsz : (madeCells #[.int .i32 0, .int .i32 0] (k * 2)).size = k * 2 := size_madeCells _ _
    have OW : Hid (OwnsR ((w.drewN q).alloc (.cells (madeCells #[.int .i32 0, .int .i32 0] (k * 2)) 37)) 37 2 (.slice (some ⟨g, 0, none⟩) l c) l xs) := OwnsR.alloc (OwnsR.drewN HX.out.1 q) _
    have HG : Hid (((w.drewN q).alloc (.cells (madeCells #[.int .i32 0, .int .i32 0] (k * 2)) 37)).heap[w.heap.size]? = some (.cells (madeCells #[.int .i32 0, .int .i32 0] (k * 2)) 37 (0, 0))) := by show (w.heap.push _)[w.heap.size]? = _; simp
    have BB : Hid (Below w.heap.size w ((w.drewN q).alloc (.cells (madeCells #[.int .i32 0, .int .i32 0] (k * 2)) 37))) := Below.alloc (B := w.heap.size) (a := w) (w := w.drewN q) ⟨rfl, rfl, rfl, Nat.le_refl _, fun _ _ => rfl⟩ (Nat.le_refl _) _
    have HSZ : Hid ((madeCells #[.int .i32 0, .int .i32 0] (k * 2)).size = k * 2) := hsz
    clear hsz
    go_wp2_with (at_make; refine wpList_make_lc _ rfl _ _ 22 rfl 37 i0 (.agg #[.int .i32 0, .int .i32 0]) 2 Yba.underlying22 hi hz0 hz1 .i64 .i64 _ _ l k rfl rfl rfl ?hC_1 hlk ?b2_1 ?b3_1 ?_)
    case hC_1 => rw [← HK.out]; unfold wantCap; omega
    case b2_1 => rw [hz2]; have := HK.out; unfold wantCap at this; omega
    case b3_1 => have := HK.out; unfold wantCap at this; omega
    obtain ⟨w2, hrun, hh, hbel, _⟩ := run_copy_head (P := Yba.prog) ((w.drewN q).alloc (.cells (madeCells #[.int .i32 0, .int .i32 0] (k * 2)) 37)) 22 22 3 37 2 Yba.underlying22 (by kernel_rfl) (some ⟨w.heap.size, 0, none⟩) (some ⟨g, 0, none⟩) l k c w.heap.size (madeCells #[.int .i32 0, .int .i32 0] (k * 2)) 37 HG.out xs HX.out.1.1 (fun _ => ⟨rfl, _, rfl, fun j v hj => by
      have hjl : j < l * 2 := by rw [← HX.out.1.1]; exact (List.getElem?_eq_some_iff.1 hj).1
      have := OW.out.cell j hjl
      rw [Addr.add_lit, ← hj]
      exact this⟩) (by rw [HSZ.out, HX.out.1.1]; omega) HX.out.2
    have RES : Hid (OwnsR w2 37 2 (.slice (some ⟨w.heap.size, 0, none⟩) l k) l xs ∧ Below w.heap.size w w2) := ⟨OwnsR.filled HX.out.1.1 HSZ.out hlk hh, hbel _ _ BB.out (Nat.le_refl _)⟩
    clear hh hbel
    go_wp2
    rw [hrun]
    simp only [Result.andThen]
    rw [Oper.upon_value]
    go_wp2
    go_ret
    exact ⟨k, HK.out.symm, rfl, RES.out⟩
  · go_enter Yba.func4, Yba.ntmps4
    go_wp2_with fail
    refine (mostHeld_any rb M T w h0 h1 hT hm).mono ?_
    rintro e w1 ⟨rfl, q, rfl⟩
    have hsz : (madeCells #[.int .i32 0, .int .i32 0] (k * 2)).size = k * 2 := size_madeCells _ _
    have OW : Hid (OwnsR ((w.drewN q).alloc (.cells (madeCells #[.int .i32 0, .int .i32 0] (k * 2)) 37)) 37 2 (.slice (some ⟨g, 0, none⟩) l c) l xs) := OwnsR.alloc (OwnsR.drewN HX.out.1 q) _
    have HG : Hid (((w.drewN q).alloc (.cells (madeCells #[.int .i32 0, .int .i32 0] (k * 2)) 37)).heap[w.heap.size]? = some (.cells (madeCells #[.int .i32 0, .int .i32 0] (k * 2)) 37 (0, 0))) := by show (w.heap.push _)[w.heap.size]? = _; simp
    have BB : Hid (Below w.heap.size w ((w.drewN q).alloc (.cells (madeCells #[.int .i32 0, .int .i32 0] (k * 2)) 37))) := Below.alloc (B := w.heap.size) (a := w) (w := w.drewN q) ⟨rfl, rfl, rfl, Nat.le_refl _, fun _ _ => rfl⟩ (Nat.le_refl _) _
    have HSZ : Hid ((madeCells #[.int .i32 0, .int .i32 0] (k * 2)).size = k * 2) := hsz
    clear hsz
    go_wp2_with (at_make; refine wpList_make_lc _ rfl _ _ 22 rfl 37 i0 (.agg #[.int .i32 0, .int .i32 0]) 2 Yba.underlying22 hi hz0 hz1 .i64 .i64 _ _ l k rfl rfl rfl ?hC_2 hlk ?b2_2 ?b3_2 ?_)
    case hC_2 => rw [← HK.out]; unfold wantCap; omega
    case b2_2 => rw [hz2]; have := HK.out; unfold wantCap at this; omega
    case b3_2 => have := HK.out; unfold wantCap at this; omega
    obtain ⟨w2, hrun, hh, hbel, _⟩ := run_copy_head (P := Yba.prog) ((w.drewN q).alloc (.cells (madeCells #[.int .i32 0, .int .i32 0] (k * 2)) 37)) 22 22 3 37 2 Yba.underlying22 (by kernel_rfl) (some ⟨w.heap.size, 0, none⟩) (some ⟨g, 0, none⟩) l k c w.heap.size (madeCells #[.int .i32 0, .int .i32 0] (k * 2)) 37 HG.out xs HX.out.1.1 (fun _ => ⟨rfl, _, rfl, fun j v hj => by
      have hjl : j < l * 2 := by rw [← HX.out.1.1]; exact (List.getElem?_eq_some_iff.1 hj).1
      have := OW.out.cell j hjl
      rw [Addr.add_lit, ← hj]
      exact this⟩) (by rw [HSZ.out, HX.out.1.1]; omega) HX.out.2
    have RES : Hid (OwnsR w2 37 2 (.slice (some ⟨w.heap.size, 0, none⟩) l k) l xs ∧ Below w.heap.size w w2) := ⟨OwnsR.filled HX.out.1.1 HSZ.out hlk hh, hbel _ _ BB.out (Nat.le_refl _)⟩
    clear hh hbel
    go_wp2
    rw [hrun]
    simp only [Result.andThen]
    rw [Oper.upon_value]
    go_wp2
    go_ret
    exact ⟨k, HK.out.symm, rfl, RES.out⟩
  · go_enter Yba.func4, Yba.ntmps4
    go_wp2_with fail
    refine (mostHeld_any rb M T w h0 h1 hT hm).mono ?_
    rintro e w1 ⟨rfl, q, rfl⟩
    have hsz : (madeCells #[.int .i32 0, .int .i32 0] (k * 2)).size = k * 2 := size_madeCells _ _
    have OW : Hid (OwnsR ((w.drewN q).alloc (.cells (madeCells #[.int .i32 0, .int .i32 0] (k * 2)) 37)) 37 2 (.slice (some ⟨g, 0, none⟩) l c) l xs) := OwnsR.alloc (OwnsR.drewN HX.out.1 q) _
    have HG : Hid (((w.drewN q).alloc (.cells (madeCells #[.int .i32 0, .int .i32 0] (k * 2)) 37)).heap[w.heap.size]? = some (.cells (madeCells #[.int .i32 0, .int .i32 0] (k * 2)) 37 (0, 0))) := by show (w.heap.push _)[w.heap.size]? = _; simp
    have BB : Hid (Below w.heap.size w ((w.drewN q).alloc (.cells (madeCells #[.int .i32 0, .int .i32 0] (k * 2)) 37))) := Below.alloc (B := w.heap.size) (a := w) (w := w.drewN q) ⟨rfl, rfl, rfl, Nat.le_refl _, fun _ _ => rfl⟩ (Nat.le_refl _) _
    have HSZ : Hid ((madeCells #[.int .i32 0, .int .i32 0] (k * 2)).size = k * 2) := hsz
    clear hsz
    go_wp2_with (at_make; refine wpList_make_lc _ rfl _ _ 22 rfl 37 i0 (.agg #[.int .i32 0, .int .i32 0]) 2 Yba.underlying22 hi hz0 hz1 .i64 .i64 _ _ l k rfl rfl rfl ?hC_3 hlk ?b2_3 ?b3_3 ?_)
    case hC_3 => rw [← HK.out]; unfold wantCap; omega
    case b2_3 => rw [hz2]; have := HK.out; unfold wantCap at this; omega
    case b3_3 => have := HK.out; unfold wantCap at this; omega
    obtain ⟨w2, hrun, hh, hbel, _⟩ := run_copy_head (P := Yba.prog) ((w.drewN q).alloc (.cells (madeCells #[.int .i32 0, .int .i32 0] (k * 2)) 37)) 22 22 3 37 2 Yba.underlying22 (by kernel_rfl) (some ⟨w.heap.size, 0, none⟩) (some ⟨g, 0, none⟩) l k c w.heap.size (madeCells #[.int .i32 0, .int .i32 0] (k * 2)) 37 HG.out xs HX.out.1.1 (fun _ => ⟨rfl, _, rfl, fun j v hj => by
      have hjl : j < l * 2 := by rw [← HX.out.1.1]; exact (List.getElem?_eq_some_iff.1 hj).1
      have := OW.out.cell j hjl
      rw [Addr.add_lit, ← hj]
      exact this⟩) (by rw [HSZ.out, HX.out.1.1]; omega) HX.out.2
    have RES : Hid (OwnsR w2 37 2 (.slice (some ⟨w.heap.size, 0, none⟩) l k) l xs ∧ Below w.heap.size w w2) := ⟨OwnsR.filled HX.out.1.1 HSZ.out hlk hh, hbel _ _ BB.out (Nat.le_refl _)⟩
    clear hh hbel
    go_wp2
    rw [hrun]
    simp only [Result.andThen]
    rw [Oper.upon_value]
    go_wp2
    go_ret
    exact ⟨k, HK.out.symm, rfl, RES.out⟩
end Go.Proofs.Ybulkdeic
