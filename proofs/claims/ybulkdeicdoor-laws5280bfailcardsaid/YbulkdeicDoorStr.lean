/-
  OWN WORK. The strings.Builder that lies inside a Map (its block's cells 14 and 15): WriteString, Len, String.
-/
import Derived.Test.YbulkdeicDoorNum
import Derived.Lib.Builder
import Derived.Lib.UnsafeStr
import Derived.Deep.RegionLaw
import Derived.BigRegion
namespace Go.Proofs.YbulkdeicDoor
open Go.RowKit Go.Lib

/-- The cells of a Map: all zero but docs.ids (its first, ends, last) and dp. -/
def mapCells (fi en ad bu dp : Value) : Array Value :=
  #[.slice none 0 0, .int .u64 0, .bool false, .slice none 0 0, .slice none 0 0, .slice none 0 0, .pointer none, .slice none 0 0,
    .slice none 0 0, .int .u64 0, .bool false, .slice none 0 0, fi, en, ad, bu,
    .slice none 0 0, .int .u64 0, .bool false, .slice none 0 0, .slice none 0 0, .slice none 0 0, .slice none 0 0, .slice none 0 0,
    .slice none 0 0, dp, .string ⟨#[]⟩, .string ⟨#[]⟩, .slice none 0 0]

/-- The Map in block b. -/
def MapAt (w : World) (b : Nat) (fi en ad bu dp : Value) : Prop := w.heap[b]? = some (.cells (mapCells fi en ad bu dp) 58 (0, 0))

section
variable {w : World} {b : Nat} {fi en ad bu dp : Value}
theorem MapAt.lt (h : MapAt w b fi en ad bu dp) : b < w.heap.size := (Array.getElem?_eq_some_iff.1 h).1
theorem MapAt.cell (h : MapAt w b fi en ad bu dp) (j : Nat) : w.cell? ⟨b, j, none⟩ = (mapCells fi en ad bu dp)[j]? := cell_of_row w b j _ 58 _ h
theorem MapAt.free (h : MapAt w b fi en ad bu dp) (j : Nat) : w.frozen? ⟨b, j, none⟩ = false := frozen_of_row w b j _ 58 h
theorem MapAt.shape (h : MapAt w b fi en ad bu dp) : w.shape? b = some (58, 29) := by
  unfold MapAt at h
  simp [World.shape?, h, mapCells]
theorem MapAt.put13 (h : MapAt w b fi en ad bu dp) (v : Value) : MapAt (w.setCell ⟨b, 13, none⟩ v) b fi v ad bu dp := heap_setCell_same w b 13 _ 58 v h
theorem MapAt.put12 (h : MapAt w b fi en ad bu dp) (v : Value) : MapAt (w.setCell ⟨b, 12, none⟩ v) b v en ad bu dp := heap_setCell_same w b 12 _ 58 v h
theorem MapAt.put14 (h : MapAt w b fi en ad bu dp) (v : Value) : MapAt (w.setCell ⟨b, 14, none⟩ v) b fi en v bu dp := heap_setCell_same w b 14 _ 58 v h
theorem MapAt.put15 (h : MapAt w b fi en ad bu dp) (v : Value) : MapAt (w.setCell ⟨b, 15, none⟩ v) b fi en ad v dp := heap_setCell_same w b 15 _ 58 v h
theorem MapAt.put25 (h : MapAt w b fi en ad bu dp) (v : Value) : MapAt (w.setCell ⟨b, 25, none⟩ v) b fi en ad bu v := heap_setCell_same w b 25 _ 58 v h
theorem MapAt.ch {S : Nat → Prop} {w' : World} (h : MapAt w b fi en ad bu dp) (hc : Ch S w w') (hs : ¬ S b) : MapAt w' b fi en ad bu dp := (hc.block b h.lt hs).trans h
theorem MapAt.alloc (h : MapAt w b fi en ad bu dp) (o : Obj) : MapAt (w.alloc o) b fi en ad bu dp := (Below.heap_alloc _ _ _ h.lt).trans h
end

theorem upon_run {P : Program} {o : Oper} {a : Act} {K : Act → World → Prop} {Q : Exit → Act → World → Prop} {m : Sem Value} {w w' : World} {v : Value} (h : m.run P w = .ok v w') (hk : K (a.put o.dst v) w') :
    Oper.upon P o a K Q ((m.run P w).andThen fun x w'' => .ok (.value x) w'') := by
  rw [h]
  simp only [Result.andThen]
  rw [Oper.upon_value]
  exact hk

theorem size45 : (Ybad.prog.info? 45).map (·.size) = some 2 := by kernel_rfl
theorem lies45 : liesAt Ybad.prog Ybad.prog.depth 58 (29 / Ybad.prog.cellsOf 58) 14 45 1 = true := by kernel_rfl

/-- The builder's address as a bare pointer. -/
theorem conv_to {w : World} {b : Nat} (h : w.shape? b = some (58, 29)) : (convert 43 85 (.pointer (some ⟨b, 14, none⟩))).run Ybad.prog w = .ok (.pointer (some ⟨b, 14, none⟩)) w := by
  obtain ⟨j, hj, hjs⟩ := Option.map_eq_some_iff.1 size45
  have hjz : ¬ j.size = 0 := by rw [hjs]; decide
  simp only [convert, Sem.run_bind, run_underlying Ybad.underlying43, run_underlying Ybad.underlying85, Result.andThen_ok]
  change Sem.run _ (_ >>= _) _ = _
  simp [run_underlying Ybad.underlying43, run_underlying Ybad.underlying85, Conv.seenAt, viewAt, cellsIn, h, sizeOf, typeInfo, hj, hjz]

/-- And back. -/
theorem conv_from {w : World} {b : Nat} (h : w.shape? b = some (58, 29)) : (convert 85 43 (.pointer (some ⟨b, 14, none⟩))).run Ybad.prog w = .ok (.pointer (some ⟨b, 14, none⟩)) w := by
  obtain ⟨j, hj, hjs⟩ := Option.map_eq_some_iff.1 size45
  simp only [convert, Sem.run_bind, run_underlying Ybad.underlying43, run_underlying Ybad.underlying85, Result.andThen_ok]
  change Sem.run _ (_ >>= _) _ = _
  simp [run_underlying Ybad.underlying43, run_underlying Ybad.underlying85, Conv.seenAt, viewAt, h, variablesAt, lies45, sizeOf, typeInfo, hj]

set_option maxHeartbeats 1000000 in
set_option maxRecDepth 100000 in
theorem copyCheck_used {w : World} {b : Nat} {fi en bu dp : Value} (h : MapAt w b fi en (.pointer (some ⟨b, 14, none⟩)) bu dp) :
    Calls Ybad.prog 17 #[.pointer (some ⟨b, 14, none⟩)] w fun e w' => e = .returned (.tuple #[]) ∧ w' = w := by
  obtain ⟨j, hj, _⟩ := Option.map_eq_some_iff.1 size45
  have c0 : w.cell? ⟨b, 14, none⟩ = some (.pointer (some ⟨b, 14, none⟩)) := h.cell 14
  go_enter Ybad.func17, Ybad.ntmps17
  go_wp2
  rw [run_neq_ptr_same w _ Ybad.underlying43 hj]
  go_wp2
  go_end0
  exact ⟨rfl, rfl⟩

set_option maxHeartbeats 1000000 in
set_option maxRecDepth 100000 in
theorem copyCheck_fresh {w : World} {b : Nat} {fi en bu dp : Value} (h : MapAt w b fi en (.pointer none) bu dp) :
    Calls Ybad.prog 17 #[.pointer (some ⟨b, 14, none⟩)] w fun e w' => e = .returned (.tuple #[]) ∧ w' = w.setCell ⟨b, 14, none⟩ (.pointer (some ⟨b, 14, none⟩)) := by
  obtain ⟨j, hj, hjs⟩ := Option.map_eq_some_iff.1 size45
  have c0 : w.cell? ⟨b, 14, none⟩ = some (.pointer none) := h.cell 14
  have f0 : w.frozen? ⟨b, 14, none⟩ = false := h.free 14
  go_enter Ybad.func17, Ybad.ntmps17
  go_wp2
  rw [conv_to h.shape]
  simp only [Result.andThen]
  rw [Oper.upon_value]
  go_wp2
  rw [run_callFunc_extern Ybad.func23 (by kernel_rfl) (by kernel_rfl) (by kernel_rfl) (e := Extern.AbiNoEscape.same) (by kernel_rfl)]
  rw [Lib.run_noEscape]
  simp only [Result.andThen]
  rw [Oper.upon_value]
  go_wp2
  rw [conv_from h.shape]
  simp only [Result.andThen]
  rw [Oper.upon_value]
  go_wp2
  go_end0
  exact ⟨rfl, rfl⟩

/-- What lies at 'addr': nothing, or the builder's own address. -/
def AddrOf (b : Nat) (ad : Value) : Prop := ad = .pointer none ∨ ad = .pointer (some ⟨b, 14, none⟩)

theorem copyCheck_any {w : World} {b : Nat} {fi en ad bu dp : Value} (h : MapAt w b fi en ad bu dp) (ha : AddrOf b ad) :
    Calls Ybad.prog 17 #[.pointer (some ⟨b, 14, none⟩)] w fun e w' => e = .returned (.tuple #[]) ∧ MapAt w' b fi en (.pointer (some ⟨b, 14, none⟩)) bu dp ∧ Ch (fun k => k = b) w w' := by
  rcases ha with rfl | rfl
  · refine (copyCheck_fresh h).mono ?_
    rintro e w' ⟨rfl, rfl⟩
    exact ⟨rfl, h.put14 _, (Ch.refl _ _).setCell _ _ (fun _ => rfl)⟩
  · refine (copyCheck_used h).mono ?_
    rintro e w' ⟨rfl, rfl⟩
    exact ⟨rfl, h, Ch.refl _ _⟩

set_option maxHeartbeats 1000000 in
set_option maxRecDepth 100000 in
theorem len_map {w : World} {b : Nat} {fi en ad dp : Value} {ao : Option Addr} {n cap : Nat} (h : MapAt w b fi en ad (.slice ao n cap) dp) :
    Calls Ybad.prog 10 #[.pointer (some ⟨b, 14, none⟩)] w fun e w' => e = .returned (.int .i64 n) ∧ w' = w := by
  have c1 : w.cell? ⟨b, 15, none⟩ = some (.slice ao n cap) := h.cell 15
  go_enter Ybad.func10, Ybad.ntmps10
  go_wp2
  go_ret
  exact ⟨rfl, rfl⟩

set_option maxHeartbeats 2000000 in
set_option maxRecDepth 100000 in
theorem writeString_map {w : World} {b n : Nat} {fi en ad bu dp : Value} {xs : List Value} (h : MapAt w b fi en ad bu dp) (ha : AddrOf b ad) (hown : Own w 5 1 bu n xs) (s : ByteArray) (hlim : n + s.size ≤ 140737488355328) :
    Calls Ybad.prog 9 #[.pointer (some ⟨b, 14, none⟩), .string s] w fun e w' => e = .returned (.tuple #[.int .i64 s.size, .nilIface]) ∧ ∃ ao cap, MapAt w' b fi en (.pointer (some ⟨b, 14, none⟩)) (.slice ao (n + s.size) cap) dp ∧
      Own w' 5 1 (.slice ao (n + s.size) cap) (n + s.size) (xs ++ strCells s) ∧ Ch (fun k => k = b ∨ bu.ownBlock = some k) w w' ∧ Fresh w bu (.slice ao (n + s.size) cap) := by
  obtain ⟨i0, hi, hz0, hz1, hz2⟩ := info_parts Ybad.info5
  have H := hid (And.intro h (And.intro ha hown))
  clear h ha hown
  go_enter Ybad.func9, Ybad.ntmps9
  go_wp2_with fail
  refine (copyCheck_any H.out.1 H.out.2.1).mono ?_
  rintro e w1 ⟨rfl, h1, k1⟩
  have hne : bu.ownBlock ≠ some b := H.out.2.2.ne H.out.1 (by decide)
  have o1 : Own w1 5 1 bu n xs := H.out.2.2.ch k1 (fun k hk e => hne (by rw [← e]; exact hk))
  have c1 : w1.cell? ⟨b, 15, none⟩ = some bu := h1.cell 15
  have O1 := hid o1
  have H1 := hid h1
  have K1 := hid k1
  clear o1 h1 k1
  go_wp2_with (at_builtin; refine wpList_append_Own_string _ rfl _ _ 26 9 rfl 5 i0 Ybad.underlying26 Ybad.underlying9 hi hz0 hz1 hz2 bu n xs rfl O1.out s rfl ?b1 ?b2 ?_)
  case b1 => unfold maxLen; omega
  case b2 => exact hlim
  intro ao' cap' w2 o2 k2 f2
  have h2 : MapAt w2 b fi en (.pointer (some ⟨b, 14, none⟩)) bu dp := H1.out.ch k2 hne
  have d1 : w2.cell? ⟨b, 15, none⟩ = some bu := h2.cell 15
  have e1 : w2.frozen? ⟨b, 15, none⟩ = false := h2.free 15
  have H2 := hid (And.intro h2 (And.intro o2 (And.intro k2 f2)))
  clear h2 o2 k2 f2
  go_wp2
  go_ret2
  refine ⟨rfl, ao', cap', H2.out.1.put15 _, H2.out.2.1.setCell _ _ (H2.out.2.1.ne H2.out.1 (by decide)), ?_, H2.out.2.2.2.low K1.out.size⟩
  refine Ch.setCell ?_ _ _ (fun _ => .inl rfl)
  exact (K1.out.mono (fun _ _ h => .inl h)).trans H2.out.2.2.1 (fun _ _ h => .inr h)

/-- A row of bytes that a string may share. -/
def Bytes (w : World) (v : Value) (l : List UInt8) : Prop :=
  ∃ g cap cur fz, v = .slice (some ⟨g, 0, none⟩) l.length cap ∧ w.heap[g]? = some (.cells cur 5 fz) ∧ l.length ≤ cap ∧ cap ≤ maxLen ∧ cur.size = cap ∧ cur.toList.take l.length = byteCells l

theorem Bytes.of {w : World} {v : Value} {n : Nat} {l : List UInt8} (h : Own w 5 1 v n (byteCells l)) (hn : n = l.length) (h0 : l ≠ []) : Bytes w v l := by
  subst hn
  rcases h.2 with ⟨_, hz⟩ | ⟨g, cap, cur, rfl, _, hg, hc, hm, hs, ht⟩
  · exact absurd (List.eq_nil_of_length_eq_zero hz) h0
  · exact ⟨g, cap, cur, (0, 0), rfl, hg, hc, hm, by simpa using hs, by simpa using ht⟩

theorem Bytes.ch {S : Nat → Prop} {w w' : World} {v : Value} {l : List UInt8} (h : Bytes w v l) (hc : Ch S w w') (hs : ∀ k, v.ownBlock = some k → ¬ S k) : Bytes w' v l := by
  obtain ⟨g, cap, cur, fz, rfl, hg, r⟩ := h
  exact ⟨g, cap, cur, fz, rfl, (hc.block g (Array.getElem?_eq_some_iff.1 hg).1 (hs g rfl)).trans hg, r⟩

set_option maxHeartbeats 1000000 in
set_option maxRecDepth 100000 in
/-- String: the bytes; the row's head is frozen behind it. -/
theorem string_map {w : World} {b : Nat} {fi en ad bu dp : Value} (h : MapAt w b fi en ad bu dp) (l : List UInt8) (h0 : l ≠ []) (hb : Bytes w bu l) :
    Calls Ybad.prog 25 #[.pointer (some ⟨b, 14, none⟩)] w fun e w' => e = .returned (.string ⟨l.toArray⟩) ∧ Bytes w' bu l ∧ Ch (fun k => bu.ownBlock = some k) w w' := by
  obtain ⟨g, cap, cur, fz, rfl, hg, hnc, hcm, hcs, htake⟩ := hb
  have hl0 : l.length ≠ 0 := by simpa using h0
  have c1 : w.drew.cell? ⟨b, 15, none⟩ = some (.slice (some ⟨g, 0, none⟩) l.length cap) := h.cell 15
  have hcell : ∀ j x, l[j]? = some x → w.drew.cell? ((⟨g, 0, none⟩ : Addr).add j) = some (.int .u8 x.toNat) := by
    intro j x hx
    have hjl := (List.getElem?_eq_some_iff.1 hx).1
    have hg' : w.drew.heap[g]? = some (.cells cur 5 fz) := hg
    rw [add_plain, cell_of_row w.drew g _ cur 5 fz hg']
    have : (cur.toList.take l.length)[j]? = some (.int .u8 x.toNat) := by rw [htake]; simp [byteCells, hx]
    rw [List.getElem?_take, if_pos hjl] at this
    simpa using this
  have hfin : Bytes (w.drew.freeze ⟨g, 0, none⟩ l.length) (.slice (some ⟨g, 0, none⟩) l.length cap) l ∧ Ch (fun k => (Value.slice (some ⟨g, 0, none⟩) l.length cap).ownBlock = some k) w (w.drew.freeze ⟨g, 0, none⟩ l.length) := by
    obtain ⟨lo, hi⟩ := fz
    refine ⟨⟨g, cap, cur, (if lo == hi then (0, 0 + l.length) else (min lo 0, max hi (0 + l.length))), rfl, ?_, hnc, hcm, hcs, htake⟩, ?_⟩
    · unfold World.freeze
      rw [if_neg hl0]
      have hg' : w.drew.heap[g]? = some (.cells cur 5 (lo, hi)) := hg
      simp [Array.getElem?_modify, hg']
    · unfold World.freeze
      rw [if_neg hl0]
      refine ⟨rfl, rfl, rfl, by rw [Array.size_modify]; exact Nat.le_refl _, fun k hk hn => ?_⟩
      simp only [Array.getElem?_modify]
      rw [if_neg (fun e => hn (by simp [Value.ownBlock, e]))]
      rfl
  have hlb := hid (Lib.run_loadBytes (P := Ybad.prog) w.drew l ⟨g, 0, none⟩ .empty hcell)
  have hlies := hid (Lib.liesAt_bytes (P := Ybad.prog) (e := 5) (by kernel_rfl) (cur.size / Ybad.prog.cellsOf 5) l.length (by rw [show Ybad.prog.cellsOf 5 = 1 by kernel_rfl]; simp; omega))
  have hsh : w.drew.shape? g = some (5, cur.size) := by
    have hg' : w.drew.heap[g]? = some (.cells cur 5 fz) := hg
    simp [World.shape?, hg']
  have HSH := hid hsh
  have HF := hid hfin
  have h63 : ¬ (9223372036854775807 : Int) < (l.length : Int) := by unfold maxLen at hcm; omega
  obtain ⟨c', rfl⟩ : ∃ c', cap = c' + 1 := ⟨cap - 1, by omega⟩
  clear hcell htake hg hsh hfin h
  go_enter Ybad.func25, Ybad.ntmps25
  go_wp2
  go_region_law (first
    | (go_simp; refine upon_run (v := .pointer (some ⟨g, 0, none⟩)) (w' := w.drew) rfl ?_)
    | (go_simp; refine upon_run (v := .string ⟨l.toArray⟩) (w' := w.drew.freeze ⟨g, 0, none⟩ l.length) (by
        change Sem.run _ (asInt (.int .i64 (l.length : Int)) >>= _) _ = _
        have hmax : IntKind.i64.max = 9223372036854775807 := rfl
        have hneg : ¬ (l.length : Int) < 0 := by omega
        simp [asInt, asIntOf, hmax, h63, hneg, hl0, variablesAt, HSH.out, elemOf, run_underlying Ybad.underlying96, hlies.out, hlb.out]) ?_))
  all_goals (go_wp2; go_ret; exact ⟨rfl, HF.out⟩)
end Go.Proofs.YbulkdeicDoor
