/-
  OWN WORK. (*queue).pop.
-/
import Derived.Test.YbulkdeewPushAny
import Derived.Test.YbulkdeewPopHeap
import Derived.Test.YbulkdeewMinInv
import Derived.LaidEqlPtr
namespace Go.Proofs.Ybulkdeew
open Go.RowKit
attribute [local simp] icells_length swapL_length

section
variable {w : World} {e : TypeId} {size : Nat} {n : Nat} {xs : List Value}
theorem OwnsR.drop1 {g off cap : Nat} (h : OwnsR w e size (.slice (some ⟨g, off, none⟩) (n + 1) cap) (n + 1) xs) : OwnsR w e size (.slice (some ⟨g, off + size, none⟩) n (cap - 1)) n (xs.drop size) := by
  rcases h.2 with ⟨h', _⟩ | ⟨g', off', cap', cur, h', hg, hn, hs, hc⟩
  · simp at h'
  · simp only [Value.slice.injEq, Option.some.injEq, Addr.mk.injEq, and_true, true_and] at h'
    obtain ⟨⟨rfl, rfl⟩, rfl⟩ := h'
    have e0 : (n + 1) * size = n * size + size := by rw [Nat.add_mul, Nat.one_mul]
    have e1 : cap * size = (cap - 1) * size + size := by
      obtain ⟨c, rfl⟩ : ∃ c, cap = c + 1 := ⟨cap - 1, by omega⟩
      rw [Nat.add_mul, Nat.one_mul]; rfl
    refine ⟨by rw [List.length_drop, h.1, e0]; omega, .inr ⟨g, off + size, cap - 1, cur, rfl, hg, by omega, by omega, fun j hj => ?_⟩⟩
    rw [List.getElem?_drop, ← hc (size + j) (by omega), Nat.add_assoc]

theorem OwnsR.empty_at {g off cap : Nat} (h : OwnsR w e size (.slice (some ⟨g, off, none⟩) n cap) n xs) : OwnsR w e size (.slice (some ⟨g, off, none⟩) 0 0) 0 [] := by
  obtain ⟨cur, hg, hs, hn⟩ := h.block
  exact ⟨by simp, .inr ⟨g, off, 0, cur, rfl, hg, Nat.le_refl _, by omega, fun j hj => by omega⟩⟩

theorem OwnsR.take {g off cap : Nat} (m : Nat) (hm : m ≤ n) (h : OwnsR w e size (.slice (some ⟨g, off, none⟩) n cap) n xs) : OwnsR w e size (.slice (some ⟨g, off, none⟩) m cap) m (xs.take (m * size)) := by
  rcases h.2 with ⟨h', _⟩ | ⟨g', off', cap', cur, h', hg, hn, hs, hc⟩
  · simp at h'
  · simp only [Value.slice.injEq, Option.some.injEq, Addr.mk.injEq, and_true, true_and] at h'
    obtain ⟨⟨rfl, rfl⟩, rfl⟩ := h'
    have hms : m * size ≤ n * size := Nat.mul_le_mul_right _ hm
    refine ⟨by rw [List.length_take, h.1]; omega, .inr ⟨g, off, cap, cur, rfl, hg, by omega, hs, fun j hj => ?_⟩⟩
    rw [List.getElem?_take, if_pos hj, hc j (by omega)]
end

set_option maxHeartbeats 1000000 in
/-- 'pop' where the lowest is the run's first. -/
theorem pop_run (qb : Nat) (rv hv : Value) (x : Int × Nat) (xs hp : Its) (w : World) (hq : QSt w qb rv hv (x :: xs) hp) (hin : inRunB (x :: xs) hp = true) (hbig : xs.length ≤ 100000) :
    Calls Yba.prog 10 #[.pointer (some ⟨qb, 0, none⟩)] w fun e w' => e = .returned (.pointer (some ⟨x.2, 0, none⟩)) ∧ ∃ rv', QSt w' qb rv' hv xs hp ∧
      Ch (fun z => z = qb ∨ rv.ownBlock = some z) w w' := by
  have hIN : Hid (∀ w1, Below w.heap.size w w1 → Calls Yba.prog 9 #[.agg #[rv, hv]] w1 fun e w' => e = .returned (.bool true) ∧ Below w1.heap.size w1 w') :=
    fun w1 hb => by rw [← hin]; exact inRun_any rv hv _ hp w1 (hq.run.below hb) (hq.hp.below hb)
  obtain ⟨g, off, cap, rfl, c0, c1⟩ := hq.run.head
  have q0 : w.cell? ⟨qb, 0, none⟩ = some (.slice (some ⟨g, off, none⟩) (xs.length + 1) cap) := by rw [cell_of_row w qb _ _ _ _ hq.q]; rfl
  have q1 : w.cell? ⟨qb, 1, none⟩ = some hv := by rw [cell_of_row w qb _ _ _ _ hq.q]; rfl
  have hown : OwnsR w 39 2 (.slice (some ⟨g, off, none⟩) (xs.length + 1) cap) (xs.length + 1) (icells (x :: xs)) := hq.run
  obtain ⟨cur, hcur, hcsz, hcn⟩ := hown.block
  have hgq : g ≠ qb := hq.ne_run g rfl
  -- what the call leaves, whatever world 'inRun' leaves
  have FIN : Hid (∀ w1, Below w.heap.size w w1 → ∀ rv', (rv' = .slice (some ⟨g, off + 2, none⟩) xs.length (cap - 1) ∨ (cap = 1 ∧ rv' = .slice (some ⟨g, off, none⟩) xs.length 0)) →
      QSt (((w1.setCell ⟨g, off, none⟩ (.int .u64 0)).setCell ⟨g, off + 1, none⟩ (.pointer none)).setCell ⟨qb, 0, none⟩ rv') qb rv' hv xs hp ∧
      Ch (fun z => z = qb ∨ (Value.slice (some ⟨g, off, none⟩) (xs.length + 1) cap).ownBlock = some z) w (((w1.setCell ⟨g, off, none⟩ (.int .u64 0)).setCell ⟨g, off + 1, none⟩ (.pointer none)).setCell ⟨qb, 0, none⟩ rv')) := by
    intro w1 hb rv' hrv
    have o1 := ((hown.below hb).stored 0 (.int .u64 0) (by omega)).stored 1 (.pointer none) (by omega)
    rw [Nat.add_zero] at o1
    have k1 : Ch (fun z => (Value.slice (some ⟨g, off, none⟩) (xs.length + 1) cap).ownBlock = some z) w ((w1.setCell ⟨g, off, none⟩ (.int .u64 0)).setCell ⟨g, off + 1, none⟩ (.pointer none)) :=
      by
        have hg : (Value.slice (some ⟨g, off, none⟩) (xs.length + 1) cap).ownBlock = some g := rfl
        exact ((Ch.ofBelow hb).setCell _ _ (fun _ => hg)).setCell _ _ (fun _ => hg)
    have o2 : Owns ((w1.setCell ⟨g, off, none⟩ (.int .u64 0)).setCell ⟨g, off + 1, none⟩ (.pointer none)) rv' xs := by
      unfold Owns
      rcases hrv with rfl | ⟨rfl, rfl⟩
      · exact o1.drop1
      · obtain rfl : xs = [] := List.eq_nil_of_length_eq_zero (by omega)
        exact o1.empty_at
    refine hq.setRun k1 o2 (fun k hk => .inl ?_)
    rcases hrv with rfl | ⟨_, rfl⟩ <;> exact hk
  obtain ⟨n, hn⟩ : ∃ n, xs.length = n := ⟨_, rfl⟩
  rw [hn] at FIN q0 hcn hbig
  simp only [hn] at hIN
  clear hown hcur hcsz
  go_enter Yba.func10, Yba.ntmps10
  go_wp2_with fail
  refine (hIN.out _ (Below.refl _ _)).mono ?_
  rintro e w1 ⟨rfl, hb⟩
  have d0 := cell_later hb c0
  have d1 := cell_later hb c1
  have d2 := cell_later hb q0
  have d3 : w1.frozen? ⟨qb, 0, none⟩ = false := (hb.frozen hq.lt).trans (frozen_of_row w qb 0 _ _ hq.q)
  have d4 : ∀ o, w1.frozen? ⟨g, o, none⟩ = false := fun o => OwnsR.free (hq.run.below hb) o
  have FF := FIN.out w1 hb
  have HFF : Hid _ := FF
  clear FF FIN hb hIN c0 c1 q0 q1 hin hn
  by_cases hc1 : cap = 1
  · go_wp2
    go_ret
    exact ⟨rfl, _, HFF.out _ (.inr ⟨hc1, rfl⟩)⟩
  · go_wp2
    go_ret
    exact ⟨rfl, _, HFF.out _ (.inl rfl)⟩
end Go.Proofs.Ybulkdeew
