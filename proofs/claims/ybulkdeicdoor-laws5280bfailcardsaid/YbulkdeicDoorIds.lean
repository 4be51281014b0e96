/-
  OWN WORK. slices.BinarySearch on the one-element row [0]; texts.at, textNumbering.id on a Map whose texts lie in one chunk.
-/
import Derived.Test.YbulkdeicDoorStr
import Derived.Deep.LoopGhost
import Derived.Deep.DeepCutAuto
import Derived.Deep.RegionWith
import Derived.Deep.QuietTactic
import Derived.BigQuiet
namespace Go.Proofs.YbulkdeicDoor
open Go.RowKit

set_option maxHeartbeats 1000000 in
set_option maxRecDepth 100000 in
theorem isNaN33 (k : Int) (w : World) : Calls Ybad.prog 33 #[.int .i32 k] w fun e w' => e = .returned (.bool false) ∧ w' = w := by
  go_enter Ybad.func33, Ybad.ntmps33
  go_wp2
  go_ret
  exact ⟨by simp, rfl⟩

set_option maxHeartbeats 1000000 in
set_option maxRecDepth 100000 in
theorem isNaN28 (k : Int) (w : World) : Calls Ybad.prog 28 #[.int .i32 k] w fun e w' => e = .returned (.bool false) ∧ w' = w := by
  go_enter Ybad.func28, Ybad.ntmps28
  go_wp2
  go_ret
  exact ⟨by simp, rfl⟩

set_option maxHeartbeats 1000000 in
set_option maxRecDepth 100000 in
theorem less27 (a k : Int) (w : World) : Calls Ybad.prog 27 #[.int .i32 a, .int .i32 k] w fun e w' => e = .returned (.bool (decide (a < k))) ∧ w' = w := by
  go_enter Ybad.func27, Ybad.ntmps27
  go_wp2_with (go_at_call 33; refine (isNaN33 _ _).mono ?_; rintro e w1 ⟨rfl, rfl⟩)
  go_ret
  exact ⟨rfl, rfl⟩

set_option maxHeartbeats 1000000 in
set_option maxRecDepth 100000 in
theorem search1 (g c k : Nat) (w : World) (hc : w.cell? ⟨g, 0, none⟩ = some (.int .i32 0)) :
    Calls Ybad.prog 24 #[.slice (some ⟨g, 0, none⟩) 1 c, .int .i32 k] w fun e w' => e = .returned (.tuple #[.int .i64 (if k = 0 then 0 else 1), .bool (decide (k = 0))]) ∧ w' = w := by
  by_cases hk : k = 0
  · subst hk
    go_enter Ybad.func24, Ybad.ntmps24
    go_wp2
    go_loopw [7, 8] (fun si sj wr => si = .int .i64 0 ∧ (sj = .int .i64 0 ∨ sj = .int .i64 1) ∧ wr = w) (fun si sj _ => (RowKit.intOf sj).toNat)
    case atStart => exact ⟨rfl, .inr rfl, rfl⟩
    case round =>
      obtain ⟨rfl, rfl | rfl, rfl⟩ := hrel
      · go_wp2
        go_ret2
        exact ⟨rfl, rfl⟩
      · go_wp2_with (go_at_call 27; refine (less27 _ _ _).mono ?_; rintro e w1 ⟨rfl, rfl⟩)
        go_roundw
        case rel => simp
        case measure => simp [RowKit.intOf]
  · have hk0 : (0 : Int) < k := by omega
    go_enter Ybad.func24, Ybad.ntmps24
    go_wp2
    go_loopw [7, 8] (fun si sj wr => sj = .int .i64 1 ∧ (si = .int .i64 0 ∨ si = .int .i64 1) ∧ wr = w) (fun si sj _ => (1 - RowKit.intOf si).toNat)
    case atStart => exact ⟨rfl, .inl rfl, rfl⟩
    case round =>
      obtain ⟨rfl, rfl | rfl, rfl⟩ := hrel
      · go_wp2_with (go_at_call 27; refine (less27 _ _ _).mono ?_; rintro e w1 ⟨rfl, rfl⟩)
        go_roundw
        case rel => simp
        case measure => simp [RowKit.intOf]
      · go_wp2
        go_ret2
        exact ⟨rfl, rfl⟩

/-- What the road from a Map to a text of it reads: one chunk; the ends; the chunk's bytes. -/
structure Ids (w : World) (b gf cf ge ce N : Nat) (ends : List Nat) (ad bu dp : Value) (l : List UInt8) : Prop where
  map : MapAt w b (.slice (some ⟨gf, 0, none⟩) 1 cf) (.slice (some ⟨ge, 0, none⟩) N ce) ad bu dp
  first : ∃ cur : Array Value, w.heap[gf]? = some (.cells cur 21 (0, 0)) ∧ cur[0]? = some (Value.int .i32 0)
  row : ∃ cur : Array Value, w.heap[ge]? = some (.cells cur 62 (0, 0)) ∧ ∀ (j e : Nat), ends[j]? = some e → cur[j]? = some (Value.int .u32 (e : Int))
  len : ends.length = N
  bytes : Bytes w bu l
  ne : l ≠ []

theorem Bytes.at {w : World} {v : Value} {l : List UInt8} (h : Bytes w v l) : ∀ k, v.ownBlock = some k → ∃ cur fz, w.heap[k]? = some (.cells cur 5 fz) := by
  obtain ⟨g, cap, cur, fz, rfl, hg, _⟩ := h
  intro k hk
  simp [Value.ownBlock] at hk
  subst hk
  exact ⟨cur, fz, hg⟩

theorem Ids.ch {S : Nat → Prop} {w w' : World} {b gf cf ge ce N : Nat} {ends : List Nat} {ad bu dp : Value} {l : List UInt8} (h : Ids w b gf cf ge ce N ends ad bu dp l) (hc : Ch S w w')
    (hs : ¬ S b ∧ ¬ S gf ∧ ¬ S ge ∧ ∀ k, bu.ownBlock = some k → ¬ S k) : Ids w' b gf cf ge ce N ends ad bu dp l := by
  obtain ⟨c1, h1, h2⟩ := h.first
  obtain ⟨c3, h3, h4⟩ := h.row
  exact ⟨h.map.ch hc hs.1, ⟨c1, (hc.block gf (Array.getElem?_eq_some_iff.1 h1).1 hs.2.1).trans h1, h2⟩, ⟨c3, (hc.block ge (Array.getElem?_eq_some_iff.1 h3).1 hs.2.2.1).trans h3, h4⟩, h.len, h.bytes.ch hc hs.2.2.2, h.ne⟩

/-- String's own turning leaves it. -/
theorem Ids.froze {w w' : World} {b gf cf ge ce N : Nat} {ends : List Nat} {ad bu dp : Value} {l : List UInt8} (h : Ids w b gf cf ge ce N ends ad bu dp l) (hc : Ch (fun k => bu.ownBlock = some k) w w') (hb : Bytes w' bu l) :
    Ids w' b gf cf ge ce N ends ad bu dp l := by
  obtain ⟨c1, h1, h2⟩ := h.first
  obtain ⟨c3, h3, h4⟩ := h.row
  have n1 : bu.ownBlock ≠ some b := fun e => by
    obtain ⟨c, fz, hx⟩ := h.bytes.at b e
    have := h.map
    unfold MapAt at this
    rw [this] at hx
    cases hx
  have n2 : bu.ownBlock ≠ some gf := fun e => by
    obtain ⟨c, fz, hx⟩ := h.bytes.at gf e
    rw [h1] at hx
    cases hx
  have n3 : bu.ownBlock ≠ some ge := fun e => by
    obtain ⟨c, fz, hx⟩ := h.bytes.at ge e
    rw [h3] at hx
    cases hx
  exact ⟨h.map.ch hc n1, ⟨c1, (hc.block gf (Array.getElem?_eq_some_iff.1 h1).1 n2).trans h1, h2⟩, ⟨c3, (hc.block ge (Array.getElem?_eq_some_iff.1 h3).1 n3).trans h3, h4⟩, h.len, hb, h.ne⟩

theorem Ids.facts {w : World} {b gf cf ge ce N : Nat} {ends : List Nat} {ad bu dp : Value} {l : List UInt8} (h : Ids w b gf cf ge ce N ends ad bu dp l) :
    w.cell? ⟨b, 11, none⟩ = some (.slice none 0 0) ∧ w.cell? ⟨b, 12, none⟩ = some (.slice (some ⟨gf, 0, none⟩) 1 cf) ∧ w.cell? ⟨b, 13, none⟩ = some (.slice (some ⟨ge, 0, none⟩) N ce) ∧
    w.cell? ⟨gf, 0, none⟩ = some (.int .i32 0) ∧ ∀ (j e : Nat), ends[j]? = some e → w.cell? ⟨ge, j, none⟩ = some (.int .u32 (e : Int)) := by
  obtain ⟨c1, h1, h2⟩ := h.first
  obtain ⟨c3, h3, h4⟩ := h.row
  exact ⟨h.map.cell 11, h.map.cell 12, h.map.cell 13, by rw [cell_of_row w gf _ _ _ _ h1, h2], fun j e he => by rw [cell_of_row w ge _ _ _ _ h3, h4 j e he]⟩

set_option maxHeartbeats 4000000 in
set_option maxRecDepth 100000 in
theorem at_map {w : World} {b gf cf ge ce N : Nat} {ends : List Nat} {ad bu dp : Value} {l : List UInt8} (h : Ids w b gf cf ge ce N ends ad bu dp l) (k s e : Nat) (hk : ends[k]? = some e) (hs : (k = 0 ∧ s = 0) ∨ (0 < k ∧ ends[k - 1]? = some s)) (hse : s ≤ e) (hel : e ≤ l.length) (hN : N ≤ 2147483647) :
    Calls Ybad.prog 19 #[.pointer (some ⟨b, 11, none⟩), .int .i32 k] w fun r w' => r = .returned (.string ((⟨l.toArray⟩ : ByteArray).extract s e)) ∧ Ids w' b gf cf ge ce N ends ad bu dp l ∧ Ch (fun k => bu.ownBlock = some k) w w' := by
  obtain ⟨f1, f2, f3, f4, f5⟩ := h.facts
  have f6 := f5 k e hk
  have hkN : k < N := by rw [← h.len]; exact (List.getElem?_eq_some_iff.1 hk).1
  have H := Lib.hid h
  have AFTER : Hid (∀ w2, Ch (fun k => bu.ownBlock = some k) w.drew w2 → Bytes w2 bu l → (w2.cell? ⟨b, 13, none⟩ = some (.slice (some ⟨ge, 0, none⟩) N ce) ∧ w2.cell? ⟨ge, k, none⟩ = some (.int .u32 (e : Int))) ∧ Ids w2 b gf cf ge ce N ends ad bu dp l ∧ Ch (fun k => bu.ownBlock = some k) w w2) := by
    intro w2 k2 hb2
    have k3 : Ch (fun k => bu.ownBlock = some k) w w2 := ((Ch.refl (fun k => bu.ownBlock = some k) w).drew).trans k2 (fun _ _ h => h)
    have h3 := h.froze k3 hb2
    exact ⟨⟨h3.facts.2.2.1, h3.facts.2.2.2.2 k e hk⟩, h3, k3⟩
  have STR : Hid (Calls Ybad.prog 25 #[.pointer (some ⟨b, 14, none⟩)] w.drew fun e w' => e = .returned (.string ⟨l.toArray⟩) ∧ Bytes w' bu l ∧ Ch (fun k => bu.ownBlock = some k) w.drew w') := string_map (w := w.drew) h.map l h.ne h.bytes
  have hsz : (⟨l.toArray⟩ : ByteArray).size = l.length := by simp [ByteArray.size]
  rcases hs with ⟨rfl, rfl⟩ | ⟨hk0, hk1⟩
  · clear h f5 hk
    go_enter Ybad.func19, Ybad.ntmps19
    go_wp2_with (go_at_call 24; refine (search1 gf cf 0 _ f4).mono ?_; rintro e w1 ⟨rfl, rfl⟩)
    go_region_with (go_at_call 25; refine STR.out.mono ?_; rintro e w2 ⟨rfl, hb2, k2⟩; obtain ⟨⟨g1, g2⟩, FI⟩ := AFTER.out w2 k2 hb2)
    all_goals (go_wp2; go_ret; exact ⟨rfl, FI⟩)
  · have f7 := f5 (k - 1) s hk1
    obtain ⟨q, rfl⟩ : ∃ q, k = q + 1 := ⟨k - 1, by omega⟩
    rw [Nat.add_sub_cancel] at f7
    clear h f5 hk hk1 hk0
    go_enter Ybad.func19, Ybad.ntmps19
    go_wp2_with (go_at_call 24; refine (search1 gf cf (q + 1) _ f4).mono ?_; rintro e w1 ⟨rfl, rfl⟩)
    go_region_with (go_at_call 25; refine STR.out.mono ?_; rintro e w2 ⟨rfl, hb2, k2⟩; obtain ⟨⟨g1, g2⟩, FI⟩ := AFTER.out w2 k2 hb2)
    all_goals (go_wp2; go_ret; exact ⟨rfl, FI⟩)

set_option maxRecDepth 100000 in
theorem id_map {w : World} {b gf cf ge ce N : Nat} {ends : List Nat} {ad bu dp : Value} {l : List UInt8} (h : Ids w b gf cf ge ce N ends ad bu dp l) (k s e : Nat) (hk : ends[k]? = some e) (hs : (k = 0 ∧ s = 0) ∨ (0 < k ∧ ends[k - 1]? = some s)) (hse : s ≤ e) (hel : e ≤ l.length) (hN : N ≤ 2147483647) :
    Calls Ybad.prog 13 #[.pointer (some ⟨b, 8, none⟩), .int .i32 k] w fun r w' => r = .returned (.string ((⟨l.toArray⟩ : ByteArray).extract s e)) ∧ Ids w' b gf cf ge ce N ends ad bu dp l ∧ Ch (fun k => bu.ownBlock = some k) w w' := by
  have A : Hid (Calls Ybad.prog 19 #[.pointer (some ⟨b, 11, none⟩), .int .i32 k] w fun r w' => r = .returned (.string ((⟨l.toArray⟩ : ByteArray).extract s e)) ∧ Ids w' b gf cf ge ce N ends ad bu dp l ∧ Ch (fun k => bu.ownBlock = some k) w w') := at_map h k s e hk hs hse hel hN
  clear h hk hs hse hel hN
  go_enter Ybad.func13, Ybad.ntmps13
  go_wp2_with (go_at_call 19; refine A.out.mono ?_; rintro e w1 ⟨rfl, h1⟩)
  go_ret
  exact ⟨rfl, h1⟩
end Go.Proofs.YbulkdeicDoor
