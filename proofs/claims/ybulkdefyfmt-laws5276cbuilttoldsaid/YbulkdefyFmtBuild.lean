/-
  OWN WORK: (*strings.Builder).copyCheck by the kit's shelf (laid by hand: the laying tool refuses it here); WriteString after the shelf's own walk, turned to this program.
-/
import Derived.Test.YbulkdefyFmtShelf
import Derived.Test.YbulkdefyFmtWord
import Derived.Shelf.Strings.Builder1
namespace Go.Proofs.YbulkdefyFmt
open Go.RowKit

def ren240 : Go.Shelf.Ren := ⟨fun | 240 => 15 | 276 => 21 | n => n, fun | 70 => 31 | 72 => 33 | 37 => 28 | 164 => 65 | n => n, fun | n => n⟩
/-- The shelf's closure of copyCheck, laid by hand. -/
theorem lays240 : Go.Proofs.Lays.n240 Ybaf.prog ren240 := {
  mixed := by kernel_rfl
  f240 := Ybaf.func15.trans (congrArg some (by kernel_rfl))
  f276 := Ybaf.func21.trans (congrArg some (by kernel_rfl))
  t0 := Ybaf.underlying0
  a0 := Ybaf.isAgg0
  z0 := Ybaf.sizeOf0
  v0 := Ybaf.zeroValue0
  t4 := Ybaf.underlying4
  a4 := Ybaf.isAgg4
  z4 := Ybaf.sizeOf4
  v4 := Ybaf.zeroValue4
  t9 := Ybaf.underlying9
  a9 := Ybaf.isAgg9
  z9 := Ybaf.sizeOf9
  v9 := Ybaf.zeroValue9
  t20 := Ybaf.underlying20
  a20 := Ybaf.isAgg20
  z20 := Ybaf.sizeOf20
  v20 := Ybaf.zeroValue20
  t70 := Ybaf.underlying31
  a70 := Ybaf.isAgg31
  z70 := Ybaf.sizeOf31
  v70 := Ybaf.zeroValue31
  t72 := Ybaf.underlying33
  a72 := Ybaf.isAgg33
  z72 := Ybaf.sizeOf33
  v72 := Ybaf.zeroValue33
  t164 := Ybaf.underlying65
  a164 := Ybaf.isAgg65
  z164 := Ybaf.sizeOf65
  v164 := Ybaf.zeroValue65 }
theorem x72 : Go.Proofs.Builder.X72 Ybaf.prog ren240 := { sizeBuilder := by kernel_rfl, liesBuilder := by kernel_rfl }

theorem copyCheck_any (B b : Nat) (bs : List Value) (w : World) (h : Lib.IsBuilder 33 5 B b bs w) :
    Calls Ybaf.prog 15 #[.pointer (some ⟨b, 0, none⟩)] w fun e w' => e = .returned (.tuple #[]) ∧ (Lib.BuilderAt 33 5 B b (.pointer (some ⟨b, 0, none⟩)) bs w' ∧ Below B w w') :=
  Go.Proofs.Any.Builder_copyCheck lays240 x72 B b bs w h

set_option maxHeartbeats 1000000 in
set_option maxRecDepth 100000 in
theorem writeString_any (B b : Nat) (bs : List Value) (s : ByteArray) (w : World) (h : Lib.IsBuilder 33 5 B b bs w) (hlen : bs.length + s.size ≤ 140737488355328) (hBw : B ≤ w.heap.size) :
    Calls Ybaf.prog 6 #[.pointer (some ⟨b, 0, none⟩), .string s] w fun e w' => e = .returned (.tuple #[.int .i64 s.size, .nilIface]) ∧ (Lib.BuilderAt 33 5 B b (.pointer (some ⟨b, 0, none⟩)) (bs ++ Lib.strCells s) w' ∧ Below B w w') := by
  obtain ⟨i0, hi, hz0, hz1, hz2⟩ := info_parts info5
  go_enter Ybaf.func6, Ybaf.ntmps6
  go_wp2_with fail
  refine (copyCheck_any B b bs _ h).mono ?_
  rintro e w1 ⟨rfl, h1, hb1⟩
  obtain ⟨hB, v, hbk, hown, hne⟩ := h1
  have c0 : w1.cell? ⟨b, 0, none⟩ = some (.pointer (some ⟨b, 0, none⟩)) := by rw [Lib.cell_of_heap hbk]; rfl
  have c1 : w1.cell? ⟨b, 1, none⟩ = some v := by rw [Lib.cell_of_heap hbk]; rfl
  go_wp2_with (at_builtin; refine Lib.wpList_append_own_string _ rfl _ _ 28 9 rfl B 5 i0 Ybaf.underlying28 Ybaf.underlying9 hi hz0 hz1 hz2 _ _ _ rfl hown s rfl ?c3 ?c4 ?c5 ?_)
  case c3 => unfold maxLen; omega
  case c4 => omega
  case c5 => have := hb1.size; omega
  intro v' w2 hown' hgrow _
  have hlt : b < w1.heap.size := by
    rcases Nat.lt_or_ge b w1.heap.size with h' | h'
    · exact h'
    · simp [Array.getElem?_eq_none h'] at hbk
  have hb2 : w2.heap[b]? = some (.cells #[.pointer (some ⟨b, 0, none⟩), v] 33 (0, 0)) := by
    rw [hgrow.block b hlt (fun e => hne e.symm)]
    exact hbk
  have d0 : w2.cell? ⟨b, 0, none⟩ = some (.pointer (some ⟨b, 0, none⟩)) := by rw [Lib.cell_of_heap hb2]; rfl
  have d1 : w2.cell? ⟨b, 1, none⟩ = some v := by rw [Lib.cell_of_heap hb2]; rfl
  have f1 : w2.frozen? ⟨b, 1, none⟩ = false := Lib.frozen_of_heap hb2 1
  obtain ⟨ao, n', cap, rfl⟩ : ∃ ao n' cap, v' = .slice ao n' cap := by
    rcases hown'.2 with ⟨hv, _⟩ | ⟨g, cap, cur, hv, _⟩
    · exact ⟨_, _, _, hv⟩
    · exact ⟨_, _, _, hv⟩
  go_wp2
  go_ret2
  refine ⟨rfl, ?_, ?_⟩
  · exact Lib.BuilderAt.put (T := 33) (e := 5) hB hb2 (bs' := bs ++ Lib.strCells s) (by simpa [Lib.strCells_length] using hown') (by decide)
  · exact (hb1.grown hgrow (by have := hb1.size; omega) (fun k hk => (hown.lt k hk).1)).setCell (p := ⟨b, 1, none⟩) hB _
end Go.Proofs.YbulkdefyFmt
