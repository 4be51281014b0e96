/-
  OWN WORK. The test's own writer; bufio.Writer's Available, Buffered, Flush.
-/
import Derived.Test.YbulkdeicDoorNum
import Derived.Deep.LoopGhost
import Derived.Deep.DeepCutAuto
import Derived.Deep.RegionWith
import Derived.Deep.QuietTactic
import Derived.BigQuiet
import Derived.BigRegion
namespace Go.Proofs.YbulkdeicDoor
open Go.RowKit

/-- The error that the failing writer hands out. -/
abbrev erv (be : Nat) : Value := .iface 77 (.pointer (some ⟨be, 0, none⟩))

/-- The slice p of n elements over the row gp holds the bytes ps. -/
def Src (w : World) (gp o : Nat) (ps : List UInt8) : Prop := ∀ j x, (Lib.byteCells ps)[j]? = some x → w.cell? ((⟨gp, o, none⟩ : Addr).add j) = some x

set_option maxHeartbeats 4000000 in
set_option maxRecDepth 100000 in
theorem zwrite_ok {w : World} {bz : Nat} {zv : Value} {c : Nat} {z : List UInt8} (hz : w.heap[bz]? = some (.cells #[zv, .int .i64 c, .nilIface] 33 (0, 0))) (hown : Own w 5 1 zv z.length (Lib.byteCells z))
    (gp o cap : Nat) (ps : List UInt8) (hp : Src w gp o ps) (hgp : gp ≠ bz) (hc : c ≤ 100000000) (hlim : z.length + ps.length ≤ 100000000) :
    Calls Ybad.prog 57 #[.pointer (some ⟨bz, 0, none⟩), .slice (some ⟨gp, o, none⟩) ps.length cap] w fun e w' => e = .returned (.tuple #[.int .i64 ps.length, .nilIface]) ∧ ∃ zv', w'.heap[bz]? = some (.cells #[zv', .int .i64 ((c : Int) + 1), .nilIface] 33 (0, 0)) ∧
      Own w' 5 1 zv' (z ++ ps).length (Lib.byteCells (z ++ ps)) ∧ Ch (fun k => k = bz ∨ zv.ownBlock = some k) w w' ∧ Fresh w zv zv' := by
  obtain ⟨i0, hi, hz0, hz1, hz2⟩ := info_parts Ybad.info5
  have c0 : w.cell? ⟨bz, 0, none⟩ = some zv := by rw [cell_of_row w bz _ _ _ _ hz]; rfl
  have c1 : w.cell? ⟨bz, 1, none⟩ = some (.int .i64 c) := by rw [cell_of_row w bz _ _ _ _ hz]; rfl
  have c2 : w.cell? ⟨bz, 2, none⟩ = some .nilIface := by rw [cell_of_row w bz _ _ _ _ hz]; rfl
  have f1 : w.frozen? ⟨bz, 1, none⟩ = false := frozen_of_row w bz _ _ _ hz
  have hne : zv.ownBlock ≠ some bz := hown.ne hz (by decide)
  have k1 : Ch (fun k => k = bz ∨ zv.ownBlock = some k) w (w.setCell ⟨bz, 1, none⟩ (.int .i64 ((c : Int) + 1))) := (Ch.refl _ _).setCell _ _ (fun _ => .inl rfl)
  have h1 : (w.setCell ⟨bz, 1, none⟩ (.int .i64 ((c : Int) + 1))).heap[bz]? = some (.cells #[zv, .int .i64 ((c : Int) + 1), .nilIface] 33 (0, 0)) := heap_setCell_same w bz 1 _ 33 _ hz
  have o1 : Own (w.setCell ⟨bz, 1, none⟩ (.int .i64 ((c : Int) + 1))) 5 1 zv z.length (Lib.byteCells z) := hown.setCell _ _ hne
  have p1 : Src (w.setCell ⟨bz, 1, none⟩ (.int .i64 ((c : Int) + 1))) gp o ps := by
    intro j x hj
    rw [Lib.add_plain]
    have := hp j x hj
    rw [Lib.add_plain] at this
    rw [World.cell?_of_block (Below.heap_setCell _ _ _ _ hgp), this]
  have G := Lib.hid (And.intro k1 (And.intro h1 (And.intro o1 p1)))
  have HN := Lib.hid hne
  clear k1 h1 o1 p1 hne hz hown hp
  go_enter Ybad.func57, Ybad.ntmps57
  go_wp2_with (at_builtin; refine wpList_append_Own _ rfl _ _ 26 rfl 5 i0 (.int .u8 0) 1 1 Ybad.underlying26 hi hz0 hz1 hz2 rfl (by decide) zv z.length (Lib.byteCells z) rfl G.out.2.2.1 ⟨gp, o, none⟩ ps.length cap (Lib.byteCells ps) rfl ?c0 G.out.2.2.2 (byteCells_one _) ?c3 ?c4 ?_)
  case c0 => rw [Lib.byteCells_length, Nat.mul_one]
  case c3 => unfold maxLen; omega
  case c4 => omega
  intro ao' cap' w2 o2 k2 f2
  have h2 : w2.heap[bz]? = some (.cells #[zv, .int .i64 ((c : Int) + 1), .nilIface] 33 (0, 0)) := (k2.block bz (Array.getElem?_eq_some_iff.1 G.out.2.1).1 HN.out).trans G.out.2.1
  have d0 : w2.cell? ⟨bz, 0, none⟩ = some zv := by rw [cell_of_row w2 bz _ _ _ _ h2]; rfl
  have e0 : w2.frozen? ⟨bz, 0, none⟩ = false := frozen_of_row w2 bz _ _ _ h2
  have G2 := Lib.hid (And.intro h2 (And.intro o2 (And.intro k2 f2)))
  clear h2 o2 k2 f2
  go_wp2
  go_ret2
  refine ⟨rfl, _, heap_setCell_same w2 bz 0 _ 33 _ G2.out.1, ?_, ?_, ?_⟩
  · rw [List.length_append, Lib.byteCells_append]
    exact G2.out.2.1.setCell _ _ (G2.out.2.1.ne G2.out.1 (by decide))
  · exact (G.out.1.trans G2.out.2.2.1 (fun _ _ h => .inr h)).setCell _ _ (fun _ => .inl rfl)
  · exact G2.out.2.2.2.low G.out.1.size

set_option maxHeartbeats 4000000 in
set_option maxRecDepth 100000 in
theorem zwrite_fail {w : World} {bz be : Nat} {zv : Value} {c : Nat} (hz : w.heap[bz]? = some (.cells #[zv, .int .i64 c, erv be] 33 (0, 0))) (pv : Value) (hc : c ≤ 100000000) :
    Calls Ybad.prog 57 #[.pointer (some ⟨bz, 0, none⟩), pv] w fun e w' => e = .returned (.tuple #[.int .i64 0, erv be]) ∧ w'.heap[bz]? = some (.cells #[zv, .int .i64 ((c : Int) + 1), erv be] 33 (0, 0)) ∧ Ch (fun k => k = bz) w w' := by
  have c1 : w.cell? ⟨bz, 1, none⟩ = some (.int .i64 c) := by rw [cell_of_row w bz _ _ _ _ hz]; rfl
  have c2 : w.cell? ⟨bz, 2, none⟩ = some (erv be) := by rw [cell_of_row w bz _ _ _ _ hz]; rfl
  have f1 : w.frozen? ⟨bz, 1, none⟩ = false := frozen_of_row w bz _ _ _ hz
  have d2 : (w.setCell ⟨bz, 1, none⟩ (.int .i64 ((c : Int) + 1))).cell? ⟨bz, 2, none⟩ = some (erv be) := by
    have h1 : (w.setCell ⟨bz, 1, none⟩ (.int .i64 ((c : Int) + 1))).heap[bz]? = some (.cells #[zv, .int .i64 ((c : Int) + 1), erv be] 33 (0, 0)) := heap_setCell_same w bz 1 _ 33 _ hz
    rw [cell_of_row _ bz _ _ _ _ h1]
    rfl
  have G := Lib.hid hz
  clear hz
  go_enter Ybad.func57, Ybad.ntmps57
  go_wp2
  go_quiet (fail)
  go_wp2
  go_ret2
  refine ⟨rfl, heap_setCell_same w bz 1 _ 33 _ G.out, ?_⟩
  exact (Ch.setCell (S := fun k => k = bz) (Ch.refl _ w) ⟨bz, 1, none⟩ _ (fun _ => rfl)).drewN _

/-- A bufio.Writer over the test's writer: in memory. er: it has failed; f: the writer fails; u: what is buffered; z: what has been written; c: the writer's calls. -/
structure Wr (w : World) (bw gb bz be : Nat) (f er : Bool) (u z : List UInt8) (c : Nat) (zv : Value) : Prop where
  wr : w.heap[bw]? = some (.cells #[if er then erv be else .nilIface, .slice (some ⟨gb, 0, none⟩) 4096 4096, .int .i64 u.length, .iface 29 (.pointer (some ⟨bz, 0, none⟩))] 84 (0, 0))
  buf : ∃ cur, w.heap[gb]? = some (.cells cur 5 (0, 0)) ∧ cur.size = 4096 ∧ cur.toList.take u.length = Lib.byteCells u
  ulen : u.length ≤ 4096
  zz : w.heap[bz]? = some (.cells #[zv, .int .i64 c, if f then erv be else .nilIface] 33 (0, 0))
  own : Own w 5 1 zv z.length (Lib.byteCells z)
  ne : zv.ownBlock ≠ some gb

theorem Wr.facts {w : World} {bw gb bz be : Nat} {f er : Bool} {u z : List UInt8} {c : Nat} {zv : Value} (h : Wr w bw gb bz be f er u z c zv) :
    w.cell? ⟨bw, 0, none⟩ = some (if er then erv be else .nilIface) ∧ w.cell? ⟨bw, 1, none⟩ = some (.slice (some ⟨gb, 0, none⟩) 4096 4096) ∧ w.cell? ⟨bw, 2, none⟩ = some (.int .i64 u.length) ∧ w.cell? ⟨bw, 3, none⟩ = some (.iface 29 (.pointer (some ⟨bz, 0, none⟩))) ∧ ∀ j, w.frozen? ⟨bw, j, none⟩ = false :=
  ⟨by rw [cell_of_row w bw _ _ _ _ h.wr]; rfl, by rw [cell_of_row w bw _ _ _ _ h.wr]; rfl, by rw [cell_of_row w bw _ _ _ _ h.wr]; rfl, by rw [cell_of_row w bw _ _ _ _ h.wr]; rfl, fun j => frozen_of_row w bw j _ _ h.wr⟩

theorem Wr.apart {w : World} {bw gb bz be : Nat} {f er : Bool} {u z : List UInt8} {c : Nat} {zv : Value} (h : Wr w bw gb bz be f er u z c zv) : bw ≠ gb ∧ bw ≠ bz ∧ gb ≠ bz ∧ zv.ownBlock ≠ some bw ∧ zv.ownBlock ≠ some bz := by
  obtain ⟨cur, hg, _⟩ := h.buf
  refine ⟨?_, ?_, ?_, h.own.ne h.wr (by decide), h.own.ne h.zz (by decide)⟩
  · rintro rfl
    have := h.wr
    rw [hg] at this
    cases this
  · rintro rfl
    have := h.wr
    rw [h.zz] at this
    cases this
  · rintro rfl
    have := h.zz
    rw [hg] at this
    cases this

/-- Another count of what is buffered. -/
theorem Wr.putN {w : World} {bw gb bz be : Nat} {f er : Bool} {u z : List UInt8} {c : Nat} {zv : Value} (h : Wr w bw gb bz be f er u z c zv) (u' : List UInt8)
    (hb : ∀ cur : Array Value, w.heap[gb]? = some (.cells cur 5 (0, 0)) → cur.toList.take u.length = Lib.byteCells u → cur.toList.take u'.length = Lib.byteCells u') (hu : u'.length ≤ 4096) :
    Wr (w.setCell ⟨bw, 2, none⟩ (.int .i64 u'.length)) bw gb bz be f er u' z c zv := by
  obtain ⟨a1, a2, a3, a4, a5⟩ := h.apart
  obtain ⟨cur, hg, hs, ht⟩ := h.buf
  exact ⟨heap_setCell_same w bw 2 _ 84 _ h.wr, ⟨cur, (Below.heap_setCell _ _ _ _ a1.symm).trans hg, hs, hb cur hg ht⟩, hu, (Below.heap_setCell _ _ _ _ a2.symm).trans h.zz, h.own.setCell _ _ a4, h.ne⟩

/-- The error stored. -/
theorem Wr.putE {w : World} {bw gb bz be : Nat} {f er : Bool} {u z : List UInt8} {c : Nat} {zv : Value} (h : Wr w bw gb bz be f er u z c zv) :
    Wr (w.setCell ⟨bw, 0, none⟩ (erv be)) bw gb bz be f true u z c zv := by
  obtain ⟨a1, a2, a3, a4, a5⟩ := h.apart
  obtain ⟨cur, hg, hs, ht⟩ := h.buf
  exact ⟨heap_setCell_same w bw 0 _ 84 _ h.wr, ⟨cur, (Below.heap_setCell _ _ _ _ a1.symm).trans hg, hs, ht⟩, h.ulen, (Below.heap_setCell _ _ _ _ a2.symm).trans h.zz, h.own.setCell _ _ a4, h.ne⟩

/-- The writer's call that failed. -/
theorem Wr.failed {w w' : World} {bw gb bz be : Nat} {er : Bool} {u z : List UInt8} {c : Nat} {zv : Value} (h : Wr w bw gb bz be true er u z c zv) (k : Ch (fun k => k = bz) w w') (hz : w'.heap[bz]? = some (.cells #[zv, .int .i64 ((c : Int) + 1), erv be] 33 (0, 0))) :
    Wr w' bw gb bz be true er u z (c + 1) zv := by
  obtain ⟨a1, a2, a3, a4, a5⟩ := h.apart
  obtain ⟨cur, hg, hs, ht⟩ := h.buf
  exact ⟨(k.block bw (Array.getElem?_eq_some_iff.1 h.wr).1 a2).trans h.wr, ⟨cur, (k.block gb (Array.getElem?_eq_some_iff.1 hg).1 a3).trans hg, hs, ht⟩, h.ulen, by rw [hz]; simp, h.own.ch k (fun j hj e => a5 (by rw [← e]; exact hj)), h.ne⟩

/-- The writer's call that went well. -/
theorem Wr.wrote {w w' : World} {bw gb bz be : Nat} {er : Bool} {u z p : List UInt8} {c : Nat} {zv zv' : Value} (h : Wr w bw gb bz be false er u z c zv) (k : Ch (fun k => k = bz ∨ zv.ownBlock = some k) w w') (hz : w'.heap[bz]? = some (.cells #[zv', .int .i64 ((c : Int) + 1), .nilIface] 33 (0, 0)))
    (ho : Own w' 5 1 zv' (z ++ p).length (Lib.byteCells (z ++ p))) (hf : Fresh w zv zv') : Wr w' bw gb bz be false er u (z ++ p) (c + 1) zv' := by
  obtain ⟨a1, a2, a3, a4, a5⟩ := h.apart
  obtain ⟨cur, hg, hs, ht⟩ := h.buf
  refine ⟨(k.block bw (Array.getElem?_eq_some_iff.1 h.wr).1 (fun e => e.elim a2 a4)).trans h.wr, ⟨cur, (k.block gb (Array.getElem?_eq_some_iff.1 hg).1 (fun e => e.elim a3 h.ne)).trans hg, hs, ht⟩, h.ulen, by rw [hz]; simp, ho, ?_⟩
  intro e
  rcases hf gb e with r | r
  · exact h.ne r
  · have : gb < w.heap.size := (Array.getElem?_eq_some_iff.1 hg).1
    omega

set_option maxHeartbeats 1000000 in
set_option maxRecDepth 100000 in
theorem available {w : World} {bw gb bz be : Nat} {f er : Bool} {u z : List UInt8} {c : Nat} {zv : Value} (h : Wr w bw gb bz be f er u z c zv) :
    Calls Ybad.prog 21 #[.pointer (some ⟨bw, 0, none⟩)] w fun e w' => e = .returned (.int .i64 (4096 - (u.length : Int))) ∧ ∃ q, w' = w.drewN q := by
  obtain ⟨f1, f2, f3, f4, f5⟩ := h.facts
  have hu := h.ulen
  clear h
  go_enter Ybad.func21, Ybad.ntmps21
  go_wp2
  go_quiet (fail)
  go_wp2
  go_ret
  exact ⟨rfl, _, rfl⟩

set_option maxHeartbeats 1000000 in
set_option maxRecDepth 100000 in
theorem buffered {w : World} {bw gb bz be : Nat} {f er : Bool} {u z : List UInt8} {c : Nat} {zv : Value} (h : Wr w bw gb bz be f er u z c zv) :
    Calls Ybad.prog 22 #[.pointer (some ⟨bw, 0, none⟩)] w fun e w' => e = .returned (.int .i64 u.length) ∧ w' = w := by
  obtain ⟨f1, f2, f3, f4, f5⟩ := h.facts
  clear h
  go_enter Ybad.func22, Ybad.ntmps22
  go_wp2
  go_ret
  exact ⟨rfl, rfl⟩

set_option maxHeartbeats 1000000 in
set_option maxRecDepth 100000 in
/-- Flush behind a failure. -/
theorem flush_er {w : World} {bw gb bz be : Nat} {f : Bool} {u z : List UInt8} {c : Nat} {zv : Value} (h : Wr w bw gb bz be f true u z c zv) :
    Calls Ybad.prog 16 #[.pointer (some ⟨bw, 0, none⟩)] w fun e w' => e = .returned (erv be) ∧ w' = w := by
  obtain ⟨f1, f2, f3, f4, f5⟩ := h.facts
  simp only [if_true] at f1
  clear h
  go_enter Ybad.func16, Ybad.ntmps16
  go_wp2
  go_ret
  exact ⟨rfl, rfl⟩

set_option maxHeartbeats 1000000 in
set_option maxRecDepth 100000 in
/-- Flush where nothing is buffered. -/
theorem flush_none {w : World} {bw gb bz be : Nat} {f : Bool} {z : List UInt8} {c : Nat} {zv : Value} (h : Wr w bw gb bz be f false [] z c zv) :
    Calls Ybad.prog 16 #[.pointer (some ⟨bw, 0, none⟩)] w fun e w' => e = .returned .nilIface ∧ w' = w := by
  obtain ⟨f1, f2, f3, f4, f5⟩ := h.facts
  simp only [Bool.false_eq_true, if_false] at f1
  clear h
  go_enter Ybad.func16, Ybad.ntmps16
  go_wp2
  go_ret
  exact ⟨rfl, rfl⟩

theorem method_write (a : Addr) (w : World) : (method 237 29 (.pointer (some a)) "Write").run Ybad.prog w = .ok (57, .pointer (some a)) w := by kernel_rfl

theorem Wr.src {w : World} {bw gb bz be : Nat} {f er : Bool} {u z : List UInt8} {c : Nat} {zv : Value} (h : Wr w bw gb bz be f er u z c zv) : Src w gb 0 u := by
  obtain ⟨cur, hg, hs, ht⟩ := h.buf
  intro j x hj
  have hjl : j < u.length := by
    have := (List.getElem?_eq_some_iff.1 hj).1
    rwa [Lib.byteCells_length] at this
  rw [Lib.add_plain, Nat.zero_add, cell_of_row w gb _ _ _ _ hg]
  rw [← ht, List.getElem?_take, if_pos hjl] at hj
  simpa using hj

set_option maxHeartbeats 4000000 in
set_option maxRecDepth 100000 in
/-- Flush, the writer in order. -/
theorem flush_ok {w : World} {bw gb bz be : Nat} {u z : List UInt8} {c : Nat} {zv : Value} (h : Wr w bw gb bz be false false u z c zv) (h0 : u ≠ []) (hc : c ≤ 50000000) (hlim : z.length + u.length ≤ 50000000) :
    Calls Ybad.prog 16 #[.pointer (some ⟨bw, 0, none⟩)] w fun e w' => e = .returned .nilIface ∧ ∃ zv', Wr w' bw gb bz be false false [] (z ++ u) (c + 1) zv' ∧ Ch (fun k => k = bw ∨ k = bz ∨ zv.ownBlock = some k) w w' ∧ Fresh w zv zv' := by
  obtain ⟨f1, f2, f3, f4, f5⟩ := h.facts
  simp only [Bool.false_eq_true, if_false] at f1
  have hu := h.ulen
  have hu0 : 0 < u.length := by
    rcases u with _ | ⟨x, u⟩
    · exact absurd rfl h0
    · simp
  have hm := method_write
  obtain ⟨a1, a2, a3, a4, a5⟩ := h.apart
  have Z : Hid (Calls Ybad.prog 57 #[.pointer (some ⟨bz, 0, none⟩), .slice (some ⟨gb, 0, none⟩) u.length 4096] w.drew fun e w' => e = .returned (.tuple #[.int .i64 u.length, .nilIface]) ∧ ∃ zv', (w'.cell? ⟨bw, 0, none⟩ = some .nilIface ∧ w'.cell? ⟨bw, 2, none⟩ = some (.int .i64 u.length) ∧ w'.frozen? ⟨bw, 2, none⟩ = false) ∧ Wr w' bw gb bz be false false u (z ++ u) (c + 1) zv' ∧ Ch (fun k => k = bz ∨ zv.ownBlock = some k) w w' ∧ Fresh w zv zv') := by
    have hz : w.drew.heap[bz]? = some (.cells #[zv, .int .i64 c, .nilIface] 33 (0, 0)) := h.zz
    refine (zwrite_ok (w := w.drew) hz h.own gb 0 4096 u h.src a3 (by omega) (by omega)).mono ?_
    rintro e w' ⟨rfl, zv', z1, z2, z3, z4⟩
    have z3' : Ch (fun k => k = bz ∨ zv.ownBlock = some k) w w' := ((Ch.refl (fun k => k = bz ∨ zv.ownBlock = some k) w).drew).trans z3 (fun _ _ h => h)
    have hW : Wr w' bw gb bz be false false u (z ++ u) (c + 1) zv' := h.wrote z3' z1 z2 z4
    obtain ⟨g1, g2, g3, g4, g5⟩ := hW.facts
    exact ⟨rfl, zv', ⟨g1, g3, g5 2⟩, hW, z3', z4⟩
  have H := Lib.hid h
  clear h a1 a2 a3 a4 a5
  go_enter Ybad.func16, Ybad.ntmps16
  go_wp2
  go_region_with (go_at_call 57; refine Z.out.mono ?_; rintro e w1 ⟨rfl, zv', ⟨g1, g2, g3⟩, FI⟩)
  all_goals (go_wp2; go_ret; exact ⟨rfl, zv', FI.1.putN [] (fun cur hs ht => by simp [Lib.byteCells]) (by simp), (FI.2.1.mono (fun _ _ h => .inr h)).setCell _ _ (fun _ => .inl rfl), FI.2.2⟩)

set_option maxHeartbeats 4000000 in
set_option maxRecDepth 100000 in
/-- Flush, the writer failing. -/
theorem flush_fail {w : World} {bw gb bz be : Nat} {u z : List UInt8} {c : Nat} {zv : Value} (h : Wr w bw gb bz be true false u z c zv) (h0 : u ≠ []) (hc : c ≤ 50000000) :
    Calls Ybad.prog 16 #[.pointer (some ⟨bw, 0, none⟩)] w fun e w' => e = .returned (erv be) ∧ Wr w' bw gb bz be true true u z (c + 1) zv ∧ Ch (fun k => k = bw ∨ k = bz ∨ zv.ownBlock = some k) w w' := by
  obtain ⟨f1, f2, f3, f4, f5⟩ := h.facts
  simp only [Bool.false_eq_true, if_false] at f1
  have hu := h.ulen
  have hu0 : 0 < u.length := by
    rcases u with _ | ⟨x, u⟩
    · exact absurd rfl h0
    · simp
  have hm := method_write
  have Z : Hid (Calls Ybad.prog 57 #[.pointer (some ⟨bz, 0, none⟩), .slice (some ⟨gb, 0, none⟩) u.length 4096] w.drew fun e w' => e = .returned (.tuple #[.int .i64 0, erv be]) ∧ (w'.cell? ⟨bw, 0, none⟩ = some .nilIface ∧ w'.cell? ⟨bw, 2, none⟩ = some (.int .i64 u.length) ∧ w'.frozen? ⟨bw, 2, none⟩ = false ∧ w'.frozen? ⟨bw, 0, none⟩ = false) ∧ Wr w' bw gb bz be true false u z (c + 1) zv ∧ Ch (fun k => k = bz) w w') := by
    refine (zwrite_fail (w := w.drew) h.zz _ (by omega)).mono ?_
    rintro e w' ⟨rfl, z1, z3⟩
    have z3' : Ch (fun k => k = bz) w w' := ((Ch.refl (fun k => k = bz) w).drew).trans z3 (fun _ _ h => h)
    have hW := h.failed z3' z1
    obtain ⟨g1, g2, g3, g4, g5⟩ := hW.facts
    exact ⟨rfl, ⟨g1, g3, g5 2, g5 0⟩, hW, z3'⟩
  clear h
  go_enter Ybad.func16, Ybad.ntmps16
  go_wp2
  go_region_with (go_at_call 57; refine Z.out.mono ?_; rintro e w1 ⟨rfl, ⟨g1, g2, g3, g4⟩, FI⟩)
  all_goals (go_wp2; go_ret; exact ⟨rfl, (FI.1.putN u (fun _ _ h => h) hu).putE, ((FI.2.mono (fun _ _ h => .inr (.inl h))).setCell _ _ (fun _ => .inl rfl)).setCell _ _ (fun _ => .inl rfl)⟩)
end Go.Proofs.YbulkdeicDoor
