/-
  OWN WORK. zzs5276cword: some word of three to five bytes, none a space.
-/
import Derived.Test.YbulkdefyFmtLow
import Derived.Test.YbulkdefyFmtMem
import Derived.Laws.BytesArg
import Derived.Laws.BitsAllLaws
namespace Go.Proofs.YbulkdefyFmt
open Go.RowKit

theorem info5 : (Ybaf.prog.info? 5).map (fun i => (i.zero, i.size, i.bytes)) = some (some (.int .u8 0), 1, 1) := by kernel_rfl

/-- No byte is a space, none is above 127. -/
def Solid (l : List UInt8) : Prop := ∀ b ∈ l, 33 ≤ b.toNat ∧ b.toNat < 128

theorem and_le (x : Int) (m : Nat) (h0 : 0 ≤ x) (h1 : x < 4294967296) (hm : m < 4294967296) : ∃ q : Nat, bits .and .u32 x (m : Int) = (q : Int) ∧ q ≤ m := by
  refine ⟨x.toNat &&& m, ?_, Nat.and_le_right⟩
  rw [u32_and x m h0 h1 (by omega) (by omega)]
  simp

theorem shr_bd (x : Int) (n : Nat) (h0 : 0 ≤ x) (h1 : x < 4294967296) : 0 ≤ x / 2 ^ n ∧ x / 2 ^ n < 4294967296 := by
  have hp : (0 : Int) < 2 ^ n := Int.pow_pos (by decide)
  refine ⟨Int.ediv_nonneg h0 (Int.le_of_lt hp), ?_⟩
  exact Int.lt_of_le_of_lt (Int.ediv_le_self _ h0) h1

theorem idx60 (w : World) : (Instr.index 60 (.agg #[.int .i64 4, .int .i64 4, .int .i64 4, .int .i64 3, .int .i64 5]) (.int .i64 0)).run Ybaf.prog w = .ok (.int .i64 4) w ∧
    (Instr.index 60 (.agg #[.int .i64 4, .int .i64 4, .int .i64 4, .int .i64 3, .int .i64 5]) (.int .i64 1)).run Ybaf.prog w = .ok (.int .i64 4) w ∧
    (Instr.index 60 (.agg #[.int .i64 4, .int .i64 4, .int .i64 4, .int .i64 3, .int .i64 5]) (.int .i64 2)).run Ybaf.prog w = .ok (.int .i64 4) w ∧
    (Instr.index 60 (.agg #[.int .i64 4, .int .i64 4, .int .i64 4, .int .i64 3, .int .i64 5]) (.int .i64 3)).run Ybaf.prog w = .ok (.int .i64 3) w ∧
    (Instr.index 60 (.agg #[.int .i64 4, .int .i64 4, .int .i64 4, .int .i64 3, .int .i64 5]) (.int .i64 4)).run Ybaf.prog w = .ok (.int .i64 5) w :=
  ⟨by kernel_rfl, by kernel_rfl, by kernel_rfl, by kernel_rfl, by kernel_rfl⟩

/-- k bytes are written. -/
def WordInv (e : TypeId) (w wr : World) (g n k : Nat) : Prop :=
  ∃ ys : List UInt8, ys.length = k ∧ (∀ b ∈ ys, 33 ≤ b.toNat ∧ b.toNat < 128) ∧
    OwnsR wr e 1 (.slice (some ⟨g, 0, none⟩) n n) n ((ys.map fun b => Value.int .u8 (b.toNat : Int)) ++ List.replicate (n - k) (.int .u8 0)) ∧ Below w.heap.size w wr ∧ w.heap.size ≤ g

theorem WordInv.cell {e : TypeId} {w wr : World} {g n k : Nat} (h : WordInv e w wr g n k) (hk : k < n) : wr.cell? ⟨g, k, none⟩ = some (.int .u8 0) ∧ wr.frozen? ⟨g, k, none⟩ = false := by
  obtain ⟨ys, hy, _, ho, _⟩ := h
  have hc := ho.cell k (by omega)
  rw [Nat.zero_add] at hc
  refine ⟨?_, ho.free k⟩
  rw [hc, List.getElem?_append_right (by simp [hy]), List.length_map, hy, Nat.sub_self, List.getElem?_replicate, if_pos (by omega)]

theorem WordInv.step {e : TypeId} {w wr : World} {g n k : Nat} (h : WordInv e w wr g n k) (hk : k < n) (v : UInt8) (hv : 33 ≤ v.toNat ∧ v.toNat < 128) : WordInv e w (wr.setCell ⟨g, k, none⟩ (.int .u8 (v.toNat : Int))) g n (k + 1) := by
  obtain ⟨ys, hy, hs, ho, hb, hg⟩ := h
  have ho2 := ho.stored k (.int .u8 (v.toNat : Int)) (by omega)
  rw [Nat.zero_add] at ho2
  have ee : ((ys.map fun b : UInt8 => Value.int .u8 (b.toNat : Int)) ++ List.replicate (n - k) (Value.int .u8 0)).set k (Value.int .u8 (v.toNat : Int)) = (((ys ++ [v]).map fun b => Value.int .u8 (b.toNat : Int)) ++ List.replicate (n - (k + 1)) (.int .u8 0)) := by
    obtain ⟨d, rfl⟩ : ∃ d, n = k + 1 + d := ⟨n - (k + 1), by omega⟩
    rw [List.set_append_right _ _ (by simp [hy])]
    have e1 : k + 1 + d - k = d + 1 := by omega
    have e2 : k + 1 + d - (k + 1) = d := by omega
    rw [e1, e2, List.replicate_succ]
    simp [hy]
  rw [ee] at ho2
  refine ⟨ys ++ [v], by simp [hy], ?_, ho2, hb.setCell hg _, hg⟩
  intro b hbm
  rcases List.mem_append.1 hbm with h | h
  · exact hs b h
  · rw [List.mem_singleton.1 h]; exact hv

theorem WordInv.bel {e : TypeId} {w wr : World} {g n k : Nat} (h : WordInv e w wr g n k) : Below w.heap.size w wr := by
  obtain ⟨ys, hy, hs, ho, hb, hg⟩ := h
  exact hb

theorem strOf_bytes (l : List UInt8) : strOfNums (l.map fun b => (b.toNat : Int)) = ⟨l.toArray⟩ := by
  apply ByteArray.ext
  apply Array.toList_inj.1
  rw [strOfNums_data, List.map_map]
  show _ = l
  conv => rhs; rw [← List.map_id l]
  exact List.map_congr_left fun b _ => by simp

theorem WordInv.str {e : TypeId} {w wr : World} {g n : Nat} (h : WordInv e w wr g n n) : ∃ l : List UInt8, l.length = n ∧ Solid l ∧ (convert 28 9 (.slice (some ⟨g, 0, none⟩) n n)).run Ybaf.prog wr = .ok (.string ⟨l.toArray⟩) wr := by
  obtain ⟨ys, hy, hs, ho, hb, hg⟩ := h
  refine ⟨ys, hy, hs, ?_⟩
  rw [← strOf_bytes]
  refine run_convert_bytes_arg wr 28 5 Ybaf.underlying28 Ybaf.underlying5 g 0 n n _ (by simp [hy]) (fun i hi => ?_) 9 Ybaf.underlying9
  rw [ho.cell i (by omega), List.getElem?_append_left (by simp [hy]; omega)]
  have : i < ys.length := by omega
  simp [this, List.getD_eq_getElem?_getD]

theorem WordInv.str_take {e : TypeId} {w wr : World} {g n k : Nat} (h : WordInv e w wr g n k) (m c : Nat) (hm : m ≤ k) (hk : k ≤ n) : ∃ l : List UInt8, l.length = m ∧ Solid l ∧ (convert 28 9 (.slice (some ⟨g, 0, none⟩) m c)).run Ybaf.prog wr = .ok (.string ⟨l.toArray⟩) wr := by
  obtain ⟨ys, hy, hs, ho, hb, hg⟩ := h
  refine ⟨ys.take m, by simp [hy]; omega, fun b hb => hs b (List.mem_of_mem_take hb), ?_⟩
  rw [← strOf_bytes]
  refine run_convert_bytes_arg wr 28 5 Ybaf.underlying28 Ybaf.underlying5 g 0 m c _ (by simp [hy]; omega) (fun i hi => ?_) 9 Ybaf.underlying9
  rw [ho.cell i (by omega), List.getElem?_append_left (by simp [hy]; omega)]
  have : i < ys.length := by omega
  simp [this, hi, List.getD_eq_getElem?_getD]

theorem lt_bd (m : Nat) (h : m < 9) : 33 ≤ ((⟨#[69, 68, 70, 75, 90, 89, 88, 87, 97]⟩ : ByteArray)[m]'h).toNat ∧ ((⟨#[69, 68, 70, 75, 90, 89, 88, 87, 97]⟩ : ByteArray)[m]'h).toNat < 128 := by
  have H : ∀ m : Fin 9, 33 ≤ ((⟨#[69, 68, 70, 75, 90, 89, 88, 87, 97]⟩ : ByteArray)[m.val]'m.isLt).toNat ∧ ((⟨#[69, 68, 70, 75, 90, 89, 88, 87, 97]⟩ : ByteArray)[m.val]'m.isLt).toNat < 128 := by decide
  exact H ⟨m, h⟩

set_option maxRecDepth 100000 in
set_option maxHeartbeats 400000 in
theorem word_any (x : Int) (h0 : 0 ≤ x) (h1 : x < 4294967296) (w : World) :
    Calls Ybaf.prog 5 #[.int .u32 x] w fun e w' => ∃ l : List UInt8, e = .returned (.string ⟨l.toArray⟩) ∧ 3 ≤ l.length ∧ l.length ≤ 5 ∧ Solid l ∧ Below w.heap.size w w' := by
  obtain ⟨q, hq, hq255⟩ := and_le (x / 16777216) 255 (shr_bd x 24 h0 h1).1 (shr_bd x 24 h0 h1).2 (by decide)
  have hq' : bits .and .u32 (x / 16777216) 255 = (q : Int) := hq
  have H : Hid (0 ≤ x ∧ x < 4294967296) := ⟨h0, h1⟩
  clear h0 h1 hq
  obtain ⟨i0, hi, hz0, hz1, hz2⟩ := info_parts info5
  have hr : q % 5 = 0 ∨ q % 5 = 1 ∨ q % 5 = 2 ∨ q % 5 = 3 ∨ q % 5 = 4 := by omega
  have ht : (q : Int).tmod 5 = ((q % 5 : Nat) : Int) := (Int.ofNat_tmod q 5).symm
  rcases hr with h | h | h | h | h
  · rw [h] at ht
    clear h
    have hix := (idx60 w).1
    go_enter Ybaf.func5, Ybaf.ntmps5
    go_wp2_with (at_make; refine wpList_make_full _ rfl _ _ 28 rfl w.heap.size 5 i0 (.int .u8 0) 1 Ybaf.underlying28 hi hz0 hz1 .i64 .i64 _ _ 4 rfl rfl rfl rfl ?b2_0 ?b3_0 ?b4_0 ?_)
    case b2_0 => rw [hz2]; omega
    case b3_0 => unfold maxLen; omega
    case b4_0 => exact Nat.le_refl _
    intro w1 hown hg
    have hown2 := OwnsR.ofRow hown
    rw [toList_madeCells_one] at hown2
    have J : Hid (WordInv 5 w w1 w.heap.size 4 0) := ⟨[], rfl, by simp, hown2, (Below.refl _ _).grown hg (Nat.le_refl _) (fun _ h => by cases h), Nat.le_refl _⟩
    clear hown hown2 hg hix ht hq' hq255
    go_wp2
    go_loopw [5, 6] (fun s5 _ wr => ∃ k : Nat, k ≤ 4 ∧ s5 = .int .i64 k ∧ Hid (WordInv 5 w wr w.heap.size 4 k)) (fun s5 _ _ => 4 - (intOf s5).toNat)
    case atStart => exact ⟨0, by omega, rfl, J⟩
    case round =>
      obtain ⟨k, hk, rfl, JK⟩ := hrel
      by_cases hlt : k < 4
      · have hlt' : (k : Int) < 4 := by omega
        obtain ⟨c, hc, hc31⟩ := and_le (x / 2 ^ (5 * k)) 31 (shr_bd x (5 * k) H.out.1 H.out.2).1 (shr_bd x (5 * k) H.out.1 H.out.2).2 (by decide)
        have hc' : bits .and .u32 (x / 2 ^ (5 * k)) 31 = (c : Int) := hc
        have ht9 : (c : Int).tmod 9 = ((c % 9 : Nat) : Int) := (Int.ofNat_tmod c 9).symm
        have hm9 : c % 9 < 9 := Nat.mod_lt _ (by decide)
        generalize c % 9 = m at ht9 hm9
        obtain ⟨hcl, hfr⟩ := JK.out.cell hlt
        clear hc
        go_wp2
        go_roundw
        case rel => exact ⟨k + 1, by omega, by go_num, JK.out.step hlt _ (lt_bd m hm9)⟩
        case measure => simp [intOf]; omega
      · obtain rfl : k = 4 := by omega
        obtain ⟨l, hl, hsol, hcv⟩ := JK.out.str
        have HL : Hid (l.length = 4 ∧ Solid l ∧ Below w.heap.size w wr) := ⟨hl, hsol, JK.out.bel⟩
        clear hl hsol
        go_wp2
        go_ret
        exact ⟨l, rfl, by rw [HL.out.1]; omega, by rw [HL.out.1]; omega, HL.out.2⟩
  · rw [h] at ht
    clear h
    have hix := (idx60 w).2.1
    go_enter Ybaf.func5, Ybaf.ntmps5
    go_wp2_with (at_make; refine wpList_make_full _ rfl _ _ 28 rfl w.heap.size 5 i0 (.int .u8 0) 1 Ybaf.underlying28 hi hz0 hz1 .i64 .i64 _ _ 4 rfl rfl rfl rfl ?b2_1 ?b3_1 ?b4_1 ?_)
    case b2_1 => rw [hz2]; omega
    case b3_1 => unfold maxLen; omega
    case b4_1 => exact Nat.le_refl _
    intro w1 hown hg
    have hown2 := OwnsR.ofRow hown
    rw [toList_madeCells_one] at hown2
    have J : Hid (WordInv 5 w w1 w.heap.size 4 0) := ⟨[], rfl, by simp, hown2, (Below.refl _ _).grown hg (Nat.le_refl _) (fun _ h => by cases h), Nat.le_refl _⟩
    clear hown hown2 hg hix ht hq' hq255
    go_wp2
    go_loopw [5, 6] (fun s5 _ wr => ∃ k : Nat, k ≤ 4 ∧ s5 = .int .i64 k ∧ Hid (WordInv 5 w wr w.heap.size 4 k)) (fun s5 _ _ => 4 - (intOf s5).toNat)
    case atStart => exact ⟨0, by omega, rfl, J⟩
    case round =>
      obtain ⟨k, hk, rfl, JK⟩ := hrel
      by_cases hlt : k < 4
      · have hlt' : (k : Int) < 4 := by omega
        obtain ⟨c, hc, hc31⟩ := and_le (x / 2 ^ (5 * k)) 31 (shr_bd x (5 * k) H.out.1 H.out.2).1 (shr_bd x (5 * k) H.out.1 H.out.2).2 (by decide)
        have hc' : bits .and .u32 (x / 2 ^ (5 * k)) 31 = (c : Int) := hc
        have ht9 : (c : Int).tmod 9 = ((c % 9 : Nat) : Int) := (Int.ofNat_tmod c 9).symm
        have hm9 : c % 9 < 9 := Nat.mod_lt _ (by decide)
        generalize c % 9 = m at ht9 hm9
        obtain ⟨hcl, hfr⟩ := JK.out.cell hlt
        clear hc
        go_wp2
        go_roundw
        case rel => exact ⟨k + 1, by omega, by go_num, JK.out.step hlt _ (lt_bd m hm9)⟩
        case measure => simp [intOf]; omega
      · obtain rfl : k = 4 := by omega
        obtain ⟨l, hl, hsol, hcv⟩ := JK.out.str
        have HL : Hid (l.length = 4 ∧ Solid l ∧ Below w.heap.size w wr) := ⟨hl, hsol, JK.out.bel⟩
        clear hl hsol
        go_wp2
        go_ret
        exact ⟨l, rfl, by rw [HL.out.1]; omega, by rw [HL.out.1]; omega, HL.out.2⟩
  · rw [h] at ht
    clear h
    have hix := (idx60 w).2.2.1
    go_enter Ybaf.func5, Ybaf.ntmps5
    go_wp2_with (at_make; refine wpList_make_full _ rfl _ _ 28 rfl w.heap.size 5 i0 (.int .u8 0) 1 Ybaf.underlying28 hi hz0 hz1 .i64 .i64 _ _ 4 rfl rfl rfl rfl ?b2_2 ?b3_2 ?b4_2 ?_)
    case b2_2 => rw [hz2]; omega
    case b3_2 => unfold maxLen; omega
    case b4_2 => exact Nat.le_refl _
    intro w1 hown hg
    have hown2 := OwnsR.ofRow hown
    rw [toList_madeCells_one] at hown2
    have J : Hid (WordInv 5 w w1 w.heap.size 4 0) := ⟨[], rfl, by simp, hown2, (Below.refl _ _).grown hg (Nat.le_refl _) (fun _ h => by cases h), Nat.le_refl _⟩
    clear hown hown2 hg hix ht hq' hq255
    go_wp2
    go_loopw [5, 6] (fun s5 _ wr => ∃ k : Nat, k ≤ 4 ∧ s5 = .int .i64 k ∧ Hid (WordInv 5 w wr w.heap.size 4 k)) (fun s5 _ _ => 4 - (intOf s5).toNat)
    case atStart => exact ⟨0, by omega, rfl, J⟩
    case round =>
      obtain ⟨k, hk, rfl, JK⟩ := hrel
      by_cases hlt : k < 4
      · have hlt' : (k : Int) < 4 := by omega
        obtain ⟨c, hc, hc31⟩ := and_le (x / 2 ^ (5 * k)) 31 (shr_bd x (5 * k) H.out.1 H.out.2).1 (shr_bd x (5 * k) H.out.1 H.out.2).2 (by decide)
        have hc' : bits .and .u32 (x / 2 ^ (5 * k)) 31 = (c : Int) := hc
        have ht9 : (c : Int).tmod 9 = ((c % 9 : Nat) : Int) := (Int.ofNat_tmod c 9).symm
        have hm9 : c % 9 < 9 := Nat.mod_lt _ (by decide)
        generalize c % 9 = m at ht9 hm9
        obtain ⟨hcl, hfr⟩ := JK.out.cell hlt
        clear hc
        go_wp2
        go_roundw
        case rel => exact ⟨k + 1, by omega, by go_num, JK.out.step hlt _ (lt_bd m hm9)⟩
        case measure => simp [intOf]; omega
      · obtain rfl : k = 4 := by omega
        obtain ⟨l, hl, hsol, hcv⟩ := JK.out.str
        have HL : Hid (l.length = 4 ∧ Solid l ∧ Below w.heap.size w wr) := ⟨hl, hsol, JK.out.bel⟩
        clear hl hsol
        go_wp2
        go_ret
        exact ⟨l, rfl, by rw [HL.out.1]; omega, by rw [HL.out.1]; omega, HL.out.2⟩
  · rw [h] at ht
    clear h
    have hix := (idx60 w).2.2.2.1
    go_enter Ybaf.func5, Ybaf.ntmps5
    go_wp2_with (at_make; refine wpList_make_full _ rfl _ _ 28 rfl w.heap.size 5 i0 (.int .u8 0) 1 Ybaf.underlying28 hi hz0 hz1 .i64 .i64 _ _ 3 rfl rfl rfl rfl ?b2_3 ?b3_3 ?b4_3 ?_)
    case b2_3 => rw [hz2]; omega
    case b3_3 => unfold maxLen; omega
    case b4_3 => exact Nat.le_refl _
    intro w1 hown hg
    have hown2 := OwnsR.ofRow hown
    rw [toList_madeCells_one] at hown2
    have J : Hid (WordInv 5 w w1 w.heap.size 3 0) := ⟨[], rfl, by simp, hown2, (Below.refl _ _).grown hg (Nat.le_refl _) (fun _ h => by cases h), Nat.le_refl _⟩
    clear hown hown2 hg hix ht hq' hq255
    go_wp2
    go_loopw [5, 6] (fun s5 _ wr => ∃ k : Nat, k ≤ 3 ∧ s5 = .int .i64 k ∧ Hid (WordInv 5 w wr w.heap.size 3 k)) (fun s5 _ _ => 3 - (intOf s5).toNat)
    case atStart => exact ⟨0, by omega, rfl, J⟩
    case round =>
      obtain ⟨k, hk, rfl, JK⟩ := hrel
      by_cases hlt : k < 3
      · have hlt' : (k : Int) < 3 := by omega
        obtain ⟨c, hc, hc31⟩ := and_le (x / 2 ^ (5 * k)) 31 (shr_bd x (5 * k) H.out.1 H.out.2).1 (shr_bd x (5 * k) H.out.1 H.out.2).2 (by decide)
        have hc' : bits .and .u32 (x / 2 ^ (5 * k)) 31 = (c : Int) := hc
        have ht9 : (c : Int).tmod 9 = ((c % 9 : Nat) : Int) := (Int.ofNat_tmod c 9).symm
        have hm9 : c % 9 < 9 := Nat.mod_lt _ (by decide)
        generalize c % 9 = m at ht9 hm9
        obtain ⟨hcl, hfr⟩ := JK.out.cell hlt
        clear hc
        go_wp2
        go_roundw
        case rel => exact ⟨k + 1, by omega, by go_num, JK.out.step hlt _ (lt_bd m hm9)⟩
        case measure => simp [intOf]; omega
      · obtain rfl : k = 3 := by omega
        obtain ⟨l, hl, hsol, hcv⟩ := JK.out.str
        have HL : Hid (l.length = 3 ∧ Solid l ∧ Below w.heap.size w wr) := ⟨hl, hsol, JK.out.bel⟩
        clear hl hsol
        go_wp2
        go_ret
        exact ⟨l, rfl, by rw [HL.out.1]; omega, by rw [HL.out.1]; omega, HL.out.2⟩
  · rw [h] at ht
    clear h
    have hix := (idx60 w).2.2.2.2
    go_enter Ybaf.func5, Ybaf.ntmps5
    go_wp2_with (at_make; refine wpList_make_full _ rfl _ _ 28 rfl w.heap.size 5 i0 (.int .u8 0) 1 Ybaf.underlying28 hi hz0 hz1 .i64 .i64 _ _ 5 rfl rfl rfl rfl ?b2_4 ?b3_4 ?b4_4 ?_)
    case b2_4 => rw [hz2]; omega
    case b3_4 => unfold maxLen; omega
    case b4_4 => exact Nat.le_refl _
    intro w1 hown hg
    have hown2 := OwnsR.ofRow hown
    rw [toList_madeCells_one] at hown2
    have J : Hid (WordInv 5 w w1 w.heap.size 5 0) := ⟨[], rfl, by simp, hown2, (Below.refl _ _).grown hg (Nat.le_refl _) (fun _ h => by cases h), Nat.le_refl _⟩
    clear hown hown2 hg hix ht hq' hq255
    go_wp2
    go_loopw [5, 6] (fun s5 _ wr => ∃ k : Nat, k ≤ 5 ∧ s5 = .int .i64 k ∧ Hid (WordInv 5 w wr w.heap.size 5 k)) (fun s5 _ _ => 5 - (intOf s5).toNat)
    case atStart => exact ⟨0, by omega, rfl, J⟩
    case round =>
      obtain ⟨k, hk, rfl, JK⟩ := hrel
      by_cases hlt : k < 5
      · have hlt' : (k : Int) < 5 := by omega
        obtain ⟨c, hc, hc31⟩ := and_le (x / 2 ^ (5 * k)) 31 (shr_bd x (5 * k) H.out.1 H.out.2).1 (shr_bd x (5 * k) H.out.1 H.out.2).2 (by decide)
        have hc' : bits .and .u32 (x / 2 ^ (5 * k)) 31 = (c : Int) := hc
        have ht9 : (c : Int).tmod 9 = ((c % 9 : Nat) : Int) := (Int.ofNat_tmod c 9).symm
        have hm9 : c % 9 < 9 := Nat.mod_lt _ (by decide)
        generalize c % 9 = m at ht9 hm9
        obtain ⟨hcl, hfr⟩ := JK.out.cell hlt
        clear hc
        go_wp2
        go_roundw
        case rel => exact ⟨k + 1, by omega, by go_num, JK.out.step hlt _ (lt_bd m hm9)⟩
        case measure => simp [intOf]; omega
      · obtain rfl : k = 5 := by omega
        obtain ⟨l, hl, hsol, hcv⟩ := JK.out.str
        have HL : Hid (l.length = 5 ∧ Solid l ∧ Below w.heap.size w wr) := ⟨hl, hsol, JK.out.bel⟩
        clear hl hsol
        go_wp2
        go_ret
        exact ⟨l, rfl, by rw [HL.out.1]; omega, by rw [HL.out.1]; omega, HL.out.2⟩
end Go.Proofs.YbulkdefyFmt
