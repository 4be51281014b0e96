/-
  OWN WORK. (*queue).pop out of a heap of one item; pop at every queue.
-/
import Derived.Test.YbulkdeewPop2
namespace Go.Proofs.Ybulkdeew
open Go.RowKit
attribute [local simp] icells_length swapL_length

set_option maxHeartbeats 2000000 in
theorem pop_heap1 (qb : Nat) (rv hv : Value) (run : Its) (y : Int × Nat) (w : World) (hq : QSt w qb rv hv run [y]) (hin : inRunB run [y] = false) :
    Calls Yba.prog 10 #[.pointer (some ⟨qb, 0, none⟩)] w fun e w' => e = .returned (.pointer (some ⟨y.2, 0, none⟩)) ∧ ∃ hv', QSt w' qb rv hv' run [] ∧
      Ch (fun z => z = qb ∨ hv.ownBlock = some z) w w' := by
  have hIN : Hid (∀ w1, Below w.heap.size w w1 → Calls Yba.prog 9 #[.agg #[rv, hv]] w1 fun e w' => e = .returned (.bool false) ∧ Below w1.heap.size w1 w') :=
    fun w1 hb => by rw [← hin]; exact inRun_any rv hv _ _ w1 (hq.run.below hb) (hq.hp.below hb)
  obtain ⟨g, off, cap, rfl, c0, c1⟩ := hq.hp.head
  have hq' : QSt w qb rv (.slice (some ⟨g, off, none⟩) 1 cap) run [y] := hq
  have hIN' : Hid (∀ w1, Below w.heap.size w w1 → Calls Yba.prog 9 #[.agg #[rv, .slice (some ⟨g, off, none⟩) 1 cap]] w1 fun e w' => e = .returned (.bool false) ∧ Below w1.heap.size w1 w') := hIN
  show Calls Yba.prog 10 #[.pointer (some ⟨qb, 0, none⟩)] w fun e w' => e = .returned (.pointer (some ⟨y.2, 0, none⟩)) ∧ ∃ hv', QSt w' qb rv hv' run [] ∧ Ch (fun z => z = qb ∨ (Value.slice (some ⟨g, off, none⟩) 1 cap).ownBlock = some z) w w'
  have q0 : w.cell? ⟨qb, 0, none⟩ = some rv := by rw [cell_of_row w qb _ _ _ _ hq.q]; rfl
  have q1 : w.cell? ⟨qb, 1, none⟩ = some (.slice (some ⟨g, off, none⟩) 1 cap) := by rw [cell_of_row w qb _ _ _ _ hq.q]; rfl
  have HO2 : Hid (OwnsR w 39 2 (.slice (some ⟨g, off, none⟩) 1 cap) 1 (icells [y])) := hq.hp
  obtain ⟨_, _, _, hcn⟩ := HO2.out.block
  clear hq hIN hin
  go_enter Yba.func10, Yba.ntmps10
  go_wp2_with fail
  refine (hIN'.out _ (Below.refl _ _)).mono ?_
  rintro e w1 ⟨rfl, hb⟩
  have d0 := cell_later hb c0
  have d1 := cell_later hb c1
  have d4 := cell_later hb q1
  have d5 : ∀ o, w1.frozen? ⟨g, o, none⟩ = false := fun o => (HO2.out.below hb).free o
  have HB : Hid (Below w.heap.size w w1) := hb
  have hgq : g ≠ qb := hq'.ne_hp g rfl
  have d6 : w1.frozen? ⟨qb, 1, none⟩ = false := (hb.frozen hq'.lt).trans (frozen_of_row w qb 1 _ _ hq'.q)
  clear hb hIN' c0 c1 q0 q1
  have FIN : Hid (∀ q, QSt ((((((w1.setCell ⟨g, off, none⟩ (.int .u64 y.1)).setCell ⟨g, off + 1, none⟩ (.pointer (some ⟨y.2, 0, none⟩))).setCell ⟨g, off, none⟩ (.int .u64 0)).setCell ⟨g, off + 1, none⟩ (.pointer none)).drewN q).setCell ⟨qb, 1, none⟩ (.slice (some ⟨g, off, none⟩) 0 cap)) qb rv (.slice (some ⟨g, off, none⟩) 0 cap) run [] ∧
      Ch (fun z => z = qb ∨ (Value.slice (some ⟨g, off, none⟩) 1 cap).ownBlock = some z) w ((((((w1.setCell ⟨g, off, none⟩ (.int .u64 y.1)).setCell ⟨g, off + 1, none⟩ (.pointer (some ⟨y.2, 0, none⟩))).setCell ⟨g, off, none⟩ (.int .u64 0)).setCell ⟨g, off + 1, none⟩ (.pointer none)).drewN q).setCell ⟨qb, 1, none⟩ (.slice (some ⟨g, off, none⟩) 0 cap))) := by
    intro q
    have k1 : Ch (fun x => (Value.slice (some ⟨g, off, none⟩) 1 cap).ownBlock = some x) w (((((w1.setCell ⟨g, off, none⟩ (.int .u64 y.1)).setCell ⟨g, off + 1, none⟩ (.pointer (some ⟨y.2, 0, none⟩))).setCell ⟨g, off, none⟩ (.int .u64 0)).setCell ⟨g, off + 1, none⟩ (.pointer none)).drewN q) :=
      ((ch_four g _ _ _ _ _ _ _ _ (Ch.ofBelow HB.out)).drewN q).mono (fun x _ e => by subst e; rfl)
    have o0 := (HO2.out.below HB.out)
    have o1 := (((o0.stored 0 (.int .u64 y.1) (by omega)).stored 1 (.pointer (some ⟨y.2, 0, none⟩)) (by omega)).stored 0 (.int .u64 0) (by omega)).stored 1 (.pointer none) (by omega)
    rw [Nat.add_zero] at o1
    have o2 := (o1.take 0 (by omega)).drewN q
    exact hq'.setHp (hp' := []) k1 (by unfold Owns; simpa [icells] using o2) (fun x hx => .inl hx)
  have hx0 := ix0
  have hx1 := ix1
  have qW : ∀ v1 v2 v3 v4, ((((w1.setCell ⟨g, off, none⟩ v1).setCell ⟨g, off + 1, none⟩ v2).setCell ⟨g, off, none⟩ v3).setCell ⟨g, off + 1, none⟩ v4).cell? ⟨qb, 1, none⟩ = some (.slice (some ⟨g, off, none⟩) 1 cap) ∧ ((((w1.setCell ⟨g, off, none⟩ v1).setCell ⟨g, off + 1, none⟩ v2).setCell ⟨g, off, none⟩ v3).setCell ⟨g, off + 1, none⟩ v4).frozen? ⟨qb, 1, none⟩ = false := by
    intro v1 v2 v3 v4
    have hb4 := (ch_four g off (off + 1) off (off + 1) v1 v2 v3 v4 (Ch.refl (fun z => z = g) w1)).block qb (World.block_lt_of_cell? w1 _ d4) (fun e => hgq e.symm)
    exact ⟨(World.cell?_of_block hb4).trans d4, (World.frozen?_of_block hb4).trans d6⟩
  have HQ : Hid _ := qW
  clear qW
  go_wp2
  have qW2 := HQ.out (.int .u64 y.1) (.pointer (some ⟨y.2, 0, none⟩)) (.int .u64 0) (.pointer none)
  generalize ((((w1.setCell ⟨g, off, none⟩ (.int .u64 y.1)).setCell ⟨g, off + 1, none⟩ (.pointer (some ⟨y.2, 0, none⟩))).setCell ⟨g, off, none⟩ (.int .u64 0)).setCell ⟨g, off + 1, none⟩ (.pointer none)) = W0 at FIN qW2
  obtain ⟨dq, fq⟩ := qW2
  clear d0 d1 d4 d5 d6 HQ HO2
  go_loopw [7] (fun si wr => si = .int .i64 0 ∧ wr = W0) (fun _ _ => 0)
  case atStart => exact ⟨rfl, rfl⟩
  case round =>
    obtain ⟨rfl, rfl⟩ := hrel
    obtain ⟨wo, hwo⟩ : ∃ wo, wo = wr := ⟨_, rfl⟩
    subst hwo
    go_wp2
    go_loopw [8, 69] (fun sl sj wq => ∃ (j q : Nat), j ≤ 2 ∧ sj = .int .i64 j ∧ sl = .int .i64 0 ∧ wq = wo.drewN q) (fun _ sj _ => 2 - (intOf sj).toNat)
    case atStart => exact ⟨0, 0, by omega, rfl, rfl, rfl⟩
    case round =>
      obtain ⟨j, q, hj2, rfl, rfl, rfl⟩ := hrel
      rcases (show j = 0 ∨ j = 1 ∨ j = 2 by omega) with rfl | rfl | rfl
      · go_wp2
        go_quiet (fail)
        go_wp2
        go_roundw
        case rel => exact ⟨1, _, by omega, by go_num, rfl, rfl⟩
        case measure => simp [intOf]
      · go_wp2
        go_quiet (fail)
        go_wp2
        go_roundw
        case rel => exact ⟨2, _, by omega, by go_num, rfl, rfl⟩
        case measure => simp [intOf]
      · go_wp2
        go_ret
        exact ⟨rfl, _, FIN.out q⟩
end Go.Proofs.Ybulkdeew
