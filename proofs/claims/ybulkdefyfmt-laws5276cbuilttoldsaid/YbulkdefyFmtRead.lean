/-
  OWN WORK. readField16 over what strings.Fields gives.
-/
import Derived.Test.YbulkdefyFmtOk
import Derived.Test.YbulkdefyFmtBad
import Derived.Test.YbulkdefyFmtShelf
import Derived.RegionTactic
import Derived.BigRegion
namespace Go.Proofs.YbulkdefyFmt
open Go.RowKit Go.Stop

def toB (l : List UInt8) : ByteArray := ⟨l.toArray⟩

theorem RowS.below {w w' : World} {g o : Nat} {ss : List ByteArray} (h : RowS w g o ss) (hg : g < w.heap.size) (hb : Below w.heap.size w w') : RowS w' g o ss := fun i hi => by
  rw [← h i hi]
  unfold World.cell?
  simp only
  rw [hb.block g hg]

theorem RowS.fields (w : World) (l : List (List UInt8)) : RowS (w.alloc (.cells (l.map fun l => Value.string ⟨l.toArray⟩).toArray 9)) w.heap.size 0 (l.map toB) := fun i hi => by
  have hi' : i < l.length := by simpa using hi
  rw [cell_of_row _ w.heap.size (0 + i) (l.map fun l => Value.string ⟨l.toArray⟩).toArray 9 (0, 0) (by show (w.heap.push _)[w.heap.size]? = _; simp)]
  simp [hi', List.getD_eq_getElem?_getD, toB]

/-- isLocation of the first four, isDuration of the last four of eight bytes. -/
theorem okHead_eq (s : ByteArray) (h8 : s.size = 8) : okHead s = ((decide ((s.extract 0 4).size = 4) && isLetB (s.extract 0 4)) && durB (s.extract 4 8)) := by
  unfold okHead durB
  have e1 : (s.extract 0 4).size = 4 := by simp; omega
  have e2 : (s.extract 4 8).size = 4 := by simp; omega
  have e3 : (s.extract 4 8).data.toList.getD 2 0 = s.data.toList.getD 6 0 := by
    rw [List.getD_eq_getElem?_getD, List.getD_eq_getElem?_getD, Array.getElem?_toList, Array.getElem?_toList]
    have h8d : s.data.size = 8 := h8
    rw [ByteArray.data_extract, Array.getElem?_extract, h8d]
    simp
  rw [e1, e2, e3, decide_eq_true h8]
  simp [Bool.and_assoc]

/-- The world behind a reading that was refused. -/
def Refused (w w' : World) (e : Ending) : Prop :=
  ∃ (rb : Nat) (t : ByteArray), e = .returned (.pointer (some ⟨rb, 0, none⟩)) ∧ w'.heap[rb]? = some (.cells #[.string synB, .string t] 55 (0, 0)) ∧ Below w.heap.size w w'

/-- The world behind a reading that stands: the plan's three fields are written. -/
def Taken (w w' : World) (pb : Nat) (cur : Array Value) (ss : List ByteArray) (e : Ending) : Prop :=
  e = .returned (.pointer none) ∧ ∃ g o n : Nat, n + 1 = ss.length ∧ RowS w' g o ss.tail ∧
    w'.heap[pb]? = some (.cells (((cur.setIfInBounds 17 (.string ((ss.getD 0 ByteArray.empty).extract 0 4))).setIfInBounds 18 (.string ((ss.getD 0 ByteArray.empty).extract 4 8))).setIfInBounds 19 (.slice (some ⟨g, o, none⟩) n n)) 49 (0, 0)) ∧
    Ch (fun k => k = pb) w w'

theorem taken_of {w w1 wr : World} {pb : Nat} {cur : Array Value} {ss : List ByteArray} {s : ByteArray} (o n : Nat) (hs : ss.getD 0 ByteArray.empty = s) (hn : n + 1 = ss.length) (ho : n = 0 ∨ o = 1)
    (hp : wr.heap[pb]? = some (.cells cur 49 (0, 0))) (hpl : pb < w.heap.size) (hr : RowS w1 w.heap.size 0 ss) (hg : w.heap.size < w1.heap.size) (b1 : Below w.heap.size w w1) (br : Below w1.heap.size w1 wr) :
    Taken w (((wr.setCell ⟨pb, 17, none⟩ (.string (s.extract 0 4))).setCell ⟨pb, 18, none⟩ (.string (s.extract 4 8))).setCell ⟨pb, 19, none⟩ (.slice (some ⟨w.heap.size, o, none⟩) n n)).drew pb cur ss (.returned (.pointer none)) := by
  refine ⟨rfl, w.heap.size, o, n, hn, ?_, ?_, ?_⟩
  · intro i hi
    rw [List.length_tail] at hi
    have ho1 : o = 1 := by omega
    subst ho1
    have hc := hr (i + 1) (by omega)
    have hc2 := cell_later br hc
    have e : ss.tail.getD i ByteArray.empty = ss.getD (i + 1) ByteArray.empty := by
      cases ss with
      | nil => rfl
      | cons a l => simp [List.getD_eq_getElem?_getD]
    rw [e, ← hc2]
    have e2 : 0 + (i + 1) = 1 + i := by omega
    rw [e2]
    have hne : w.heap.size ≠ pb := by omega
    have drew_cell : ∀ (v : World) (a : Addr), v.drew.cell? a = v.cell? a := fun _ _ => rfl
    rw [drew_cell]
    unfold World.cell?
    simp only
    rw [Below.heap_setCell _ _ _ _ hne, Below.heap_setCell _ _ _ _ hne, Below.heap_setCell _ _ _ _ hne]
  · rw [hs]
    exact heap_setCell_same _ pb 19 _ 49 _ (heap_setCell_same _ pb 18 _ 49 _ (heap_setCell_same _ pb 17 _ 49 _ hp))
  · have b2 := b1.trans (br.mono (Nat.le_of_lt hg))
    refine ⟨b2.os, b2.tape, b2.output, ?_, fun k hk hne => ?_⟩
    · show _ ≤ (((wr.setCell _ _).setCell _ _).setCell _ _).heap.size
      simpa [World.setCell] using b2.size
    · show (((wr.setCell _ _).setCell _ _).setCell _ _).heap[k]? = _
      rw [Below.heap_setCell _ _ _ _ hne, Below.heap_setCell _ _ _ _ hne, Below.heap_setCell _ _ _ _ hne]
      exact b2.block k hk

set_option maxRecDepth 100000 in
set_option maxHeartbeats 1000000 in
theorem read_any (F : Interp) (pb : Nat) (cur : Array Value) (f : List UInt8) (w : World) (hF : F.answers w.tape) (hp : w.heap[pb]? = some (.cells cur 49 (0, 0))) (hcs : cur.size = 25)
    (hf : f.length ≤ 100000) (hasc : ∀ b ∈ f, b.toNat < 128) (htab : Lib.TabIs Ybaf.prog w "strings.asciiSpace" .u8 Lib.asciiSpaceTab) (ss : List ByteArray) (hss : (Lib.fields f).map toB = ss) (hn : ss.length ≤ 100000) :
    Calls Ybaf.prog 10 #[.pointer (some ⟨pb, 0, none⟩), .string (toB f)] w fun e w' => (okB ss = false ∧ Refused w w' e) ∨ (okB ss = true ∧ Taken w w' pb cur ss e) := by
  go_enter Ybaf.func10, Ybaf.ntmps10
  go_wp2_with fail
  refine (Ybaf.strings_Fields (toB f) w (by show f.length < _; omega) (fun j b hb => hasc b (List.mem_of_getElem? hb)) htab).mono ?_
  rintro e w1 ⟨rfl, hw1⟩
  have hfl : (toB f).data.toList = f := rfl
  rw [hfl] at hw1
  rw [hfl]
  have hlen : (Lib.fields f).length = ss.length := by rw [← hss, List.length_map]
  rw [hlen]
  have R1 : Hid (RowS w1 w.heap.size 0 ss) := by rw [hw1, ← hss]; exact RowS.fields w _
  have B1 : Hid (Below w.heap.size w w1) := by rw [hw1]; exact (Below.refl _ _).alloc (Nat.le_refl _) _
  have G1 : Hid (w.heap.size < w1.heap.size) := by show _ < _; rw [hw1]; simp
  have hpl : pb < w.heap.size := (Array.getElem?_eq_some_iff.1 hp).1
  have HP : Hid (w.heap[pb]? = some (.cells cur 49 (0, 0)) ∧ F.answers w.tape ∧ pb < w.heap.size ∧ cur.size = 25) := ⟨hp, hF, hpl, hcs⟩
  clear hw1 hfl hlen hss hp hF htab hasc hf hpl hcs
  generalize hnn : ss.length = n at hn
  have HN : Hid (ss.length = n) := hnn
  clear hnn
  generalize toB f = fs
  by_cases h0 : n = 0
  · subst h0
    have E : Hid (okB ss = false) := by
      show _ = _
      rw [List.eq_nil_of_length_eq_zero HN.out]
      rfl
    go_wp2_with fail
    refine (badField_any F _ _ _ w1 (by rw [B1.out.tape]; exact HP.out.2.1)).mono ?_
    rintro e w2 ⟨t, rfl, ht, hb⟩
    have RF : Hid (Refused w w2 (.returned (.pointer (some ⟨w1.heap.size + 1, 0, none⟩)))) := ⟨_, t, rfl, ht, B1.out.trans (hb.mono (Nat.le_of_lt G1.out))⟩
    clear ht hb
    go_wp2
    go_ret
    exact .inl ⟨E.out, RF.out⟩
  · have hpos : (0 : Int) < (n : Int) := by omega
    have hne : ((n : Int) == 0) = false := beq_eq_false_iff_ne.2 (by omega)
    have c0 := R1.out 0 (by have := HN.out; omega)
    have OH : Hid (okHead (ss.getD 0 ByteArray.empty) = false → okB ss = false) := okB_head ss (by have := HN.out; omega)
    have OT : Hid (okHead (ss.getD 0 ByteArray.empty) = true → (∀ j, 1 ≤ j → j < ss.length → locB (ss.getD j ByteArray.empty) = true) → okB ss = true) := okB_of ss (by have := HN.out; omega)
    have HS : ∃ s0, ss.getD 0 ByteArray.empty = s0 := ⟨_, rfl⟩
    obtain ⟨s, hs⟩ := HS
    rw [hs] at c0 OH OT
    have HS : Hid (ss.getD 0 ByteArray.empty = s) := hs
    clear hs
    by_cases h8 : s.size = 8
    · have h8' : ((s.size : Int) != 8) = false := by rw [h8]; rfl
      have EH : Hid (okHead s = ((decide ((s.extract 0 4).size = 4) && isLetB (s.extract 0 4)) && durB (s.extract 4 8))) := okHead_eq s h8
      go_wp2_with fail
      refine (isLoc_any _ w1).mono ?_
      rintro e w2 ⟨rfl, hb2⟩
      have B2 : Hid (Below w1.heap.size w1 w2) := hb2
      clear hb2
      have c02 := cell_later B2.out c0
      generalize (decide ((s.extract 0 4).size = 4) && isLetB (s.extract 0 4)) = bl at EH
      cases bl with
      | false =>
        have E : Hid (okB ss = false) := OH.out (by rw [EH.out]; rfl)
        go_wp2_with fail
        refine (badField_any F _ _ _ w2 (by rw [B2.out.tape, B1.out.tape]; exact HP.out.2.1)).mono ?_
        rintro e w3 ⟨t, rfl, ht, hb⟩
        have RF : Hid (Refused w w3 (.returned (.pointer (some ⟨w2.heap.size + 1, 0, none⟩)))) := ⟨_, t, rfl, ht, (B1.out.trans (B2.out.mono (Nat.le_of_lt G1.out))).trans (hb.mono (by have := G1.out; have := B2.out.size; omega))⟩
        clear ht hb
        go_wp2
        go_ret
        exact .inl ⟨E.out, RF.out⟩
      | true =>
        go_wp2_with fail
        refine (isDur_any _ w2).mono ?_
        rintro e w3 ⟨rfl, hb3⟩
        have B3 : Hid (Below w1.heap.size w1 w3) := B2.out.trans (hb3.mono B2.out.size)
        clear hb3 c02
        have c03 := cell_later B3.out c0
        generalize durB (s.extract 4 8) = bd at EH
        cases bd with
        | false =>
          have E : Hid (okB ss = false) := OH.out (by rw [EH.out]; rfl)
          go_wp2_with fail
          refine (badField_any F _ _ _ w3 (by rw [B3.out.tape, B1.out.tape]; exact HP.out.2.1)).mono ?_
          rintro e w4 ⟨t, rfl, ht, hb⟩
          have RF : Hid (Refused w w4 (.returned (.pointer (some ⟨w3.heap.size + 1, 0, none⟩)))) := ⟨_, t, rfl, ht, (B1.out.trans (B3.out.mono (Nat.le_of_lt G1.out))).trans (hb.mono (by have := G1.out; have := B3.out.size; omega))⟩
          clear ht hb
          go_wp2
          go_ret
          exact .inl ⟨E.out, RF.out⟩
        | true =>
          have OK : Hid (okHead s = true) := EH.out
          clear EH
          by_cases h1 : n = 1
          · subst h1
            clear h0 hpos hne hn
            go_wp2
            go_loopw [41, 7] (fun s41 _ wr => ∃ k : Nat, k ≤ 0 ∧ s41 = .int .i64 k ∧ Hid (Below w1.heap.size w1 wr ∧ ∀ j, j < k → locB (ss.getD (j + 1) ByteArray.empty) = true)) (fun s41 _ _ => 0 - (intOf s41).toNat)
            case atStart => exact ⟨0, Nat.zero_le _, rfl, B3.out, fun j hj => by omega⟩
            case round =>
              obtain ⟨k, hk, rfl, HD⟩ := hrel
              by_cases hlt : k < 0
              · omega
              · obtain rfl : k = 0 := by omega
                have E : Hid (okB ss = true) := OT.out OK.out (fun j hj1 hj2 => by
                  obtain ⟨i, rfl⟩ : ∃ i, j = i + 1 := ⟨j - 1, by omega⟩
                  exact HD.out.2 i (by have := HN.out; omega))
                have PB : Hid (wr.heap[pb]? = some (.cells cur 49 (0, 0))) := by
                  show _ = _
                  rw [HD.out.1.block pb (by have := HP.out.2.2.1; have := G1.out; omega), B1.out.block pb HP.out.2.2.1]
                  exact HP.out.1
                have c0r := cell_later HD.out.1 c0
                obtain ⟨x17, hx17⟩ : ∃ x, cur[17]? = some x := ⟨_, Array.getElem?_eq_getElem (by have := HP.out.2.2.2; omega)⟩
                obtain ⟨x18, hx18⟩ : ∃ x, cur[18]? = some x := ⟨_, Array.getElem?_eq_getElem (by have := HP.out.2.2.2; omega)⟩
                obtain ⟨x19, hx19⟩ : ∃ x, cur[19]? = some x := ⟨_, Array.getElem?_eq_getElem (by have := HP.out.2.2.2; omega)⟩
                have d17 : wr.cell? ⟨pb, 17, none⟩ = some x17 := by rw [cell_of_row wr pb 17 cur 49 (0, 0) PB.out, hx17]
                have d18 : wr.cell? ⟨pb, 18, none⟩ = some x18 := by rw [cell_of_row wr pb 18 cur 49 (0, 0) PB.out, hx18]
                have d19 : wr.cell? ⟨pb, 19, none⟩ = some x19 := by rw [cell_of_row wr pb 19 cur 49 (0, 0) PB.out, hx19]
                have f17 := frozen_of_row wr pb 17 cur 49 PB.out
                have f18 := frozen_of_row wr pb 18 cur 49 PB.out
                have f19 := frozen_of_row wr pb 19 cur 49 PB.out
                have hne : pb ≠ w.heap.size := by have := HP.out.2.2.1; omega
                clear hx17 hx18 hx19 c03 c0
                go_wp2
                have TK : Hid (Taken w (((wr.setCell ⟨pb, 17, none⟩ (.string (s.extract 0 4))).setCell ⟨pb, 18, none⟩ (.string (s.extract 4 8))).setCell ⟨pb, 19, none⟩ (.slice (some ⟨w.heap.size, 0, none⟩) 0 0)).drew pb cur ss (.returned (.pointer none))) :=
                  taken_of 0 0 HS.out (by have := HN.out; omega) (.inl rfl) PB.out HP.out.2.2.1 R1.out G1.out B1.out HD.out.1
                go_region
                go_wp2
                go_ret
                exact .inr ⟨E.out, TK.out⟩
          · obtain ⟨m, rfl⟩ : ∃ m, n = m + 1 := ⟨n - 1, by omega⟩
            have hm1 : ¬ m + 1 = 1 := h1
            go_wp2
            go_loopw [41, 7] (fun s41 _ wr => ∃ k : Nat, k ≤ m ∧ s41 = .int .i64 k ∧ Hid (Below w1.heap.size w1 wr ∧ ∀ j, j < k → locB (ss.getD (j + 1) ByteArray.empty) = true)) (fun s41 _ _ => m - (intOf s41).toNat)
            case atStart => exact ⟨0, Nat.zero_le _, rfl, B3.out, fun j hj => by omega⟩
            case round =>
              obtain ⟨k, hk, rfl, HD⟩ := hrel
              by_cases hlt : k < m
              · have hlt' : (k : Int) < (m : Int) := by omega
                have ck0 := R1.out (k + 1) (by have := HN.out; omega)
                have ck := cell_later HD.out.1 ck0
                rw [show 0 + (k + 1) = 1 + k by omega] at ck
                have OTL : Hid (locB (ss.getD (k + 1) ByteArray.empty) = false → okB ss = false) := okB_tail ss (k + 1) (by omega) (by have := HN.out; omega)
                have HD2 : Hid (locB (ss.getD (k + 1) ByteArray.empty) = true → ∀ j, j < k + 1 → locB (ss.getD (j + 1) ByteArray.empty) = true) := fun h j hj2 => by
                  by_cases e : j = k
                  · subst e; exact h
                  · exact HD.out.2 j (by omega)
                clear ck0
                generalize ss.getD (k + 1) ByteArray.empty = t at ck OTL HD2
                go_wp2_with fail
                refine (isLoc_any _ wr).mono ?_
                rintro e w4 ⟨rfl, hb4⟩
                have B4 : Hid (Below w1.heap.size w1 w4) := HD.out.1.trans (hb4.mono HD.out.1.size)
                clear hb4 ck
                have OTL' : Hid ((decide (t.size = 4) && isLetB t) = false → okB ss = false) := OTL
                have HD2' : Hid ((decide (t.size = 4) && isLetB t) = true → ∀ j, j < k + 1 → locB (ss.getD (j + 1) ByteArray.empty) = true) := HD2
                clear OTL HD2
                generalize (decide (t.size = 4) && isLetB t) = bt at OTL' HD2'
                cases bt with
                | false =>
                  have E : Hid (okB ss = false) := OTL'.out rfl
                  go_wp2_with fail
                  refine (badField_any F _ _ _ w4 (by rw [B4.out.tape, B1.out.tape]; exact HP.out.2.1)).mono ?_
                  rintro e w5 ⟨t5, rfl, ht, hb⟩
                  have RF : Hid (Refused w w5 (.returned (.pointer (some ⟨w4.heap.size + 1, 0, none⟩)))) := ⟨_, t5, rfl, ht, (B1.out.trans (B4.out.mono (Nat.le_of_lt G1.out))).trans (hb.mono (by have := G1.out; have := B4.out.size; omega))⟩
                  clear ht hb
                  go_wp2
                  go_ret
                  exact .inl ⟨E.out, RF.out⟩
                | true =>
                  have HD3 : Hid (∀ j, j < k + 1 → locB (ss.getD (j + 1) ByteArray.empty) = true) := HD2'.out rfl
                  go_wp2
                  go_roundw
                  case rel => exact ⟨k + 1, by omega, by go_num, B4.out, HD3.out⟩
                  case measure => simp [intOf]; omega
              · obtain rfl : k = m := by omega
                have E : Hid (okB ss = true) := OT.out OK.out (fun j hj1 hj2 => by
                  obtain ⟨i, rfl⟩ : ∃ i, j = i + 1 := ⟨j - 1, by omega⟩
                  exact HD.out.2 i (by have := HN.out; omega))
                have PB : Hid (wr.heap[pb]? = some (.cells cur 49 (0, 0))) := by
                  show _ = _
                  rw [HD.out.1.block pb (by have := HP.out.2.2.1; have := G1.out; omega), B1.out.block pb HP.out.2.2.1]
                  exact HP.out.1
                have c0r := cell_later HD.out.1 c0
                obtain ⟨x17, hx17⟩ : ∃ x, cur[17]? = some x := ⟨_, Array.getElem?_eq_getElem (by have := HP.out.2.2.2; omega)⟩
                obtain ⟨x18, hx18⟩ : ∃ x, cur[18]? = some x := ⟨_, Array.getElem?_eq_getElem (by have := HP.out.2.2.2; omega)⟩
                obtain ⟨x19, hx19⟩ : ∃ x, cur[19]? = some x := ⟨_, Array.getElem?_eq_getElem (by have := HP.out.2.2.2; omega)⟩
                have d17 : wr.cell? ⟨pb, 17, none⟩ = some x17 := by rw [cell_of_row wr pb 17 cur 49 (0, 0) PB.out, hx17]
                have d18 : wr.cell? ⟨pb, 18, none⟩ = some x18 := by rw [cell_of_row wr pb 18 cur 49 (0, 0) PB.out, hx18]
                have d19 : wr.cell? ⟨pb, 19, none⟩ = some x19 := by rw [cell_of_row wr pb 19 cur 49 (0, 0) PB.out, hx19]
                have f17 := frozen_of_row wr pb 17 cur 49 PB.out
                have f18 := frozen_of_row wr pb 18 cur 49 PB.out
                have f19 := frozen_of_row wr pb 19 cur 49 PB.out
                have hne : pb ≠ w.heap.size := by have := HP.out.2.2.1; omega
                clear hx17 hx18 hx19 c03 c0
                go_wp2
                have TK : Hid (Taken w (((wr.setCell ⟨pb, 17, none⟩ (.string (s.extract 0 4))).setCell ⟨pb, 18, none⟩ (.string (s.extract 4 8))).setCell ⟨pb, 19, none⟩ (.slice (some ⟨w.heap.size, 1, none⟩) k k)).drew pb cur ss (.returned (.pointer none))) :=
                  taken_of 1 k HS.out (by have := HN.out; omega) (.inr rfl) PB.out HP.out.2.2.1 R1.out G1.out B1.out HD.out.1
                go_region
                go_wp2
                go_ret
                exact .inr ⟨E.out, TK.out⟩
    · have h8' : ((s.size : Int) != 8) = true := by rw [bne_iff_ne]; omega
      have h8'' : (s.size != 8) = true := by rw [bne_iff_ne]; omega
      have E : Hid (okB ss = false) := OH.out (by unfold okHead; rw [decide_eq_false h8]; rfl)
      go_wp2_with fail
      refine (badField_any F _ _ _ w1 (by rw [B1.out.tape]; exact HP.out.2.1)).mono ?_
      rintro e w2 ⟨t, rfl, ht, hb⟩
      have RF : Hid (Refused w w2 (.returned (.pointer (some ⟨w1.heap.size + 1, 0, none⟩)))) := ⟨_, t, rfl, ht, B1.out.trans (hb.mono (Nat.le_of_lt G1.out))⟩
      clear ht hb
      go_wp2
      go_ret
      exact .inl ⟨E.out, RF.out⟩
end Go.Proofs.YbulkdefyFmt
