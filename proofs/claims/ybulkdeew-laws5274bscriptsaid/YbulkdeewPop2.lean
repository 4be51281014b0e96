/-
  OWN WORK. (*queue).pop out of the heap.
-/
import Derived.Test.YbulkdeewPop
import Derived.BigRegion
namespace Go.Proofs.Ybulkdeew
open Go.RowKit
attribute [local simp] icells_length swapL_length

theorem icells_take : ∀ (xs : Its) (m : Nat), icells (xs.take m) = (icells xs).take (m * 2)
  | [], m => by simp [icells]
  | x :: xs, 0 => by simp [icells]
  | x :: xs, m + 1 => by
    rw [List.take_succ_cons, icells_cons, icells_cons, icells_take xs m, show (m + 1) * 2 = m * 2 + 1 + 1 by omega, List.take_succ_cons, List.take_succ_cons]

theorem take_set_ge {α : Type} (l : List α) (n i : Nat) (a : α) (h : n ≤ i) : (l.set i a).take n = l.take n := by
  rw [List.take_set]
  exact List.set_eq_of_length_le (by rw [List.length_take]; omega)

/-- The root's cells overwritten by the last's, the last's by zeros, the slice cut. -/
theorem Owns.popped {w : World} {g off cap m : Nat} {L : Its} (h : Owns w (.slice (some ⟨g, off, none⟩) (m + 1) cap) L) (hL : L.length = m + 1) (z : Int × Nat) (hz : L[m]? = some z) (u v : Value) :
    Owns ((((w.setCell ⟨g, off, none⟩ (.int .u64 z.1)).setCell ⟨g, off + 1, none⟩ (.pointer (some ⟨z.2, 0, none⟩))).setCell ⟨g, off + m * 2, none⟩ u).setCell ⟨g, off + m * 2 + 1, none⟩ v)
      (.slice (some ⟨g, off, none⟩) m cap) (Ybulkdeew.popped L m) := by
  have e2 : L.getD m (0, 0) = z := by simp [List.getD_eq_getElem?_getD, hz]
  unfold Owns at h ⊢
  rw [hL] at h
  have h1 := (((h.stored 0 (.int .u64 z.1) (by omega)).stored 1 (.pointer (some ⟨z.2, 0, none⟩)) (by omega)).stored (m * 2) u (by omega)).stored (m * 2 + 1) v (by omega)
  rw [Nat.add_zero, ← Nat.add_assoc off] at h1
  have h2 := h1.take m (by omega)
  rw [take_set_ge _ _ _ _ (by omega), take_set_ge _ _ _ _ (by omega)] at h2
  have e3 : (((icells L).set 0 (.int .u64 z.1)).set 1 (.pointer (some ⟨z.2, 0, none⟩))).take (m * 2) = icells (Ybulkdeew.popped L m) := by
    unfold Ybulkdeew.popped
    rw [icells_take, icells_set, e2]
  rw [e3] at h2
  have e4 : (Ybulkdeew.popped L m).length = m := by simp [Ybulkdeew.popped, hL]
  rw [e4]
  exact h2

theorem ch_four {w w1 : World} (g o1 o2 o3 o4 : Nat) (v1 v2 v3 v4 : Value) (h : Ch (fun z => z = g) w w1) :
    Ch (fun z => z = g) w ((((w1.setCell ⟨g, o1, none⟩ v1).setCell ⟨g, o2, none⟩ v2).setCell ⟨g, o3, none⟩ v3).setCell ⟨g, o4, none⟩ v4) := by
  have k1 := h.setCell ⟨g, o1, none⟩ v1 (fun _ => rfl)
  have k2 := k1.setCell ⟨g, o2, none⟩ v2 (fun _ => rfl)
  have k3 := k2.setCell ⟨g, o3, none⟩ v3 (fun _ => rfl)
  exact k3.setCell ⟨g, o4, none⟩ v4 (fun _ => rfl)

theorem ix0 (a b : Int) (w : World) : (Instr.index 52 (.agg #[.int .i64 a, .int .i64 b]) (.int .i64 0)).run Yba.prog w = .ok (.int .i64 a) w := by kernel_rfl
theorem ix1 (a b : Int) (w : World) : (Instr.index 52 (.agg #[.int .i64 a, .int .i64 b]) (.int .i64 1)).run Yba.prog w = .ok (.int .i64 b) w := by kernel_rfl

set_option maxHeartbeats 2000000 in
theorem pop_heap (qb : Nat) (rv hv : Value) (run : Its) (y : Int × Nat) (ys : Its) (w : World) (hq : QSt w qb rv hv run (y :: ys)) (hin : inRunB run (y :: ys) = false) (k : Nat) (hm : ys.length = k + 1) (hbig : k ≤ 100000) (hheap : IsHeap (y :: ys)) :
    Calls Yba.prog 10 #[.pointer (some ⟨qb, 0, none⟩)] w fun e w' => e = .returned (.pointer (some ⟨y.2, 0, none⟩)) ∧ ∃ hv' hp', QSt w' qb rv hv' run hp' ∧ hp'.Perm ys ∧ IsHeap hp' ∧
      Ch (fun z => z = qb ∨ hv.ownBlock = some z) w w' := by
  have hIN : Hid (∀ w1, Below w.heap.size w w1 → Calls Yba.prog 9 #[.agg #[rv, hv]] w1 fun e w' => e = .returned (.bool false) ∧ Below w1.heap.size w1 w') :=
    fun w1 hb => by rw [← hin]; exact inRun_any rv hv _ _ w1 (hq.run.below hb) (hq.hp.below hb)
  obtain ⟨g, off, cap, rfl, c0, c1⟩ := hq.hp.head
  rw [hm] at hIN hq
  have q0 : w.cell? ⟨qb, 0, none⟩ = some rv := by rw [cell_of_row w qb _ _ _ _ hq.q]; rfl
  have q1 : w.cell? ⟨qb, 1, none⟩ = some (.slice (some ⟨g, off, none⟩) (k + 1 + 1) cap) := by rw [cell_of_row w qb _ _ _ _ hq.q]; rfl
  have hown : Owns w (.slice (some ⟨g, off, none⟩) (k + 1 + 1) cap) (y :: ys) := hq.hp
  have hL : (y :: ys).length = k + 1 + 1 := by simp [hm]
  obtain ⟨⟨zk, zh⟩, hz⟩ : ∃ z, (y :: ys)[k + 1]? = some z := ⟨_, List.getElem?_eq_getElem (by omega)⟩
  have hown2 : OwnsR w 39 2 (.slice (some ⟨g, off, none⟩) (k + 1 + 1) cap) (k + 1 + 1) (icells (y :: ys)) := by have := hown; unfold Owns at this; rw [hL] at this; exact this
  have c2 : w.cell? ⟨g, off + (k + 1) * 2, none⟩ = some (.int .u64 zk) := by rw [hown2.cell ((k + 1) * 2) (by omega), icells_key _ _ _ hz]
  have c3 : w.cell? ⟨g, off + (k + 1) * 2 + 1, none⟩ = some (.pointer (some ⟨zh, 0, none⟩)) := by rw [Nat.add_assoc, hown2.cell ((k + 1) * 2 + 1) (by omega), icells_ptr _ _ _ hz]
  obtain ⟨_, _, _, hcn⟩ := hown2.block
  have HO : Hid (Owns w (.slice (some ⟨g, off, none⟩) (k + 1 + 1) cap) (y :: ys)) := hown
  have HO2 : Hid (OwnsR w 39 2 (.slice (some ⟨g, off, none⟩) (k + 1 + 1) cap) (k + 1 + 1) (icells (y :: ys))) := hown2
  clear hown hown2
  go_enter Yba.func10, Yba.ntmps10
  go_wp2_with fail
  refine (hIN.out _ (Below.refl _ _)).mono ?_
  rintro e w1 ⟨rfl, hb⟩
  have d0 := cell_later hb c0
  have d1 := cell_later hb c1
  have d2 := cell_later hb c2
  have d3 := cell_later hb c3
  have d4 := cell_later hb q1
  have d5 : ∀ o, w1.frozen? ⟨g, o, none⟩ = false := fun o => (HO2.out.below hb).free o
  have HB : Hid (Below w.heap.size w w1) := hb
  clear hb hIN c0 c1 c2 c3 q0 q1
  have ST : Hid (Owns ((((w1.setCell ⟨g, off, none⟩ (.int .u64 zk)).setCell ⟨g, off + 1, none⟩ (.pointer (some ⟨zh, 0, none⟩))).setCell ⟨g, off + (k + 1) * 2, none⟩ (.int .u64 0)).setCell ⟨g, off + (k + 1) * 2 + 1, none⟩ (.pointer none)) (.slice (some ⟨g, off, none⟩) (k + 1) cap) (popped (y :: ys) (k + 1)) ∧
      Ch (fun z => z = g) w ((((w1.setCell ⟨g, off, none⟩ (.int .u64 zk)).setCell ⟨g, off + 1, none⟩ (.pointer (some ⟨zh, 0, none⟩))).setCell ⟨g, off + (k + 1) * 2, none⟩ (.int .u64 0)).setCell ⟨g, off + (k + 1) * 2 + 1, none⟩ (.pointer none))) :=
    ⟨Owns.popped (OwnsR.below HO.out HB.out) hL (zk, zh) hz _ _, ch_four g _ _ _ _ _ _ _ _ (Ch.ofBelow HB.out)⟩
  have hx0 := ix0
  have hx1 := ix1
  go_wp2
  clear d0 d1 d2 d3 d4 d5 hz HO HO2
  go_loopw [7] (fun si wr => ∃ (i : Nat) (dk : Its), si = .int .i64 i ∧ i < k + 1 ∧ dk.length = k + 1 ∧ Hid (dk.Perm ys ∧ HeapDown dk i ∧ Owns wr (.slice (some ⟨g, off, none⟩) (k + 1) cap) dk ∧ Ch (fun z => z = g) w wr))
    (fun si _ => k + 1 - (intOf si).toNat)
  case atStart => exact ⟨0, popped (y :: ys) (k + 1), rfl, by omega, popped_length y ys (k + 1) hm, popped_perm y ys (k + 1) hm, popped_down (y :: ys) (k + 1) hL hheap, ST.out.1, ST.out.2⟩
  case round =>
    clear ST
    obtain ⟨i, dk, rfl, hik, hdk, HR⟩ := hrel
    have ho : OwnsR wr 39 2 (.slice (some ⟨g, off, none⟩) (k + 1) cap) (k + 1) (icells dk) := by have := HR.out.2.2.1; unfold Owns at this; rw [hdk] at this; exact this
    have hcells : Hid (∀ j, j < k + 1 → wr.cell? ⟨g, off + j * 2, none⟩ = some (.int .u64 (K dk j)) ∧ ∃ h, dk[j]? = some (K dk j, h) ∧ wr.cell? ⟨g, off + j * 2 + 1, none⟩ = some (.pointer (some ⟨h, 0, none⟩))) := by
      intro j hj
      obtain ⟨x, hx⟩ : ∃ x, dk[j]? = some x := ⟨_, List.getElem?_eq_getElem (by omega)⟩
      have hk : K dk j = x.1 := by simp [K, List.getD_eq_getElem?_getD, hx]
      refine ⟨by rw [ho.cell (j * 2) (by omega), icells_key dk j _ hx, hk], x.2, by rw [hk]; exact hx, ?_⟩
      rw [Nat.add_assoc, ho.cell (j * 2 + 1) (by omega), icells_ptr dk j _ hx]
    have hfree : ∀ o, wr.frozen? ⟨g, o, none⟩ = false := fun o => ho.free o
    clear ho
    have hqr : wr.heap[qb]? = some (.cells #[rv, .slice (some ⟨g, off, none⟩) (k + 1 + 1) cap] 25 (0, 0)) := (HR.out.2.2.2.block qb hq.lt (fun e => hq.ne_hp g rfl e.symm)).trans hq.q
    have dq : wr.cell? ⟨qb, 1, none⟩ = some (.slice (some ⟨g, off, none⟩) (k + 1 + 1) cap) := by rw [cell_of_row wr qb _ _ _ _ hqr]; rfl
    have fq : wr.frozen? ⟨qb, 1, none⟩ = false := frozen_of_row wr qb _ _ _ hqr
    have FIN : Hid (∀ q, IsHeap dk → QSt ((wr.drewN q).setCell ⟨qb, 1, none⟩ (.slice (some ⟨g, off, none⟩) (k + 1) cap)) qb rv (.slice (some ⟨g, off, none⟩) (k + 1) cap) run dk ∧ dk.Perm ys ∧ IsHeap dk ∧ Ch (fun z => z = qb ∨ (Value.slice (some ⟨g, off, none⟩) (ys.length + 1) cap).ownBlock = some z) w ((wr.drewN q).setCell ⟨qb, 1, none⟩ (.slice (some ⟨g, off, none⟩) (k + 1) cap))) := by
      intro q hh
      have k1 : Ch (fun x => (Value.slice (some ⟨g, off, none⟩) (k + 1 + 1) cap).ownBlock = some x) w (wr.drewN q) := (HR.out.2.2.2.drewN q).mono (fun x _ e => by subst e; rfl)
      have := hq.setHp k1 (OwnsR.drewN HR.out.2.2.1 q) (fun x hx => .inl hx)
      exact ⟨this.1, HR.out.1, hh, this.2⟩
    clear hqr
    obtain ⟨wo, hwo⟩ : ∃ wo, wo = wr := ⟨_, rfl⟩
    subst hwo
    go_wp2
    go_loopw [8, 69] (fun sl sj wq => ∃ (j q : Nat), j ≤ 2 ∧ sj = .int .i64 j ∧ sl = .int .i64 (lowAt dk (k + 1) i j) ∧ wq = wo.drewN q) (fun _ sj _ => 2 - (intOf sj).toNat)
    case atStart => exact ⟨0, 0, by omega, rfl, rfl, rfl⟩
    case round =>
      obtain ⟨j, q, hj2, rfl, rfl, rfl⟩ := hrel
      have hll := lowAt_lt dk (k + 1) i j hik
      have LS : Hid (lowAt dk (k + 1) i (j + 1) = if 2 * i + (j + 1) < k + 1 ∧ K dk (2 * i + (j + 1)) < K dk (lowAt dk (k + 1) i j) then 2 * i + (j + 1) else lowAt dk (k + 1) i j) := rfl
      have HE : Hid (j = 2 → lowAt dk (k + 1) i 2 = lowAt dk (k + 1) i j) := by rintro rfl; rfl
      generalize lowAt dk (k + 1) i j = l at hll LS HE
      have cl := (hcells.out l hll).1
      generalize K dk l = kl at cl LS
      rcases (show j = 0 ∨ j = 1 ∨ j = 2 by omega) with rfl | rfl | rfl
      · by_cases hc : 2 * i + 1 < k + 1
        · have cc := (hcells.out (2 * i + 1) hc).1
          have LS' : Hid (lowAt dk (k + 1) i 1 = if K dk (2 * i + 1) < kl then 2 * i + 1 else l) := by
            have e : lowAt dk (k + 1) i 1 = if 2 * i + 1 < k + 1 ∧ K dk (2 * i + 1) < kl then 2 * i + 1 else l := LS.out
            rw [e]
            show (if 2 * i + 1 < k + 1 ∧ K dk (2 * i + 1) < kl then 2 * i + 1 else l) = _
            by_cases ht : K dk (2 * i + 1) < kl
            · rw [if_pos ⟨hc, ht⟩, if_pos ht]
            · rw [if_neg (fun h => ht h.2), if_neg ht]
          generalize K dk (2 * i + 1) = kc at cc LS'
          have p1 : (0 : Int) ≤ 2 * (i : Int) + 1 := by omega
          have e1 : (2 * (i : Int) + 1).toNat = 2 * i + 1 := by omega
          have hc' : 2 * (i : Int) + 1 < (k : Int) + 1 := by omega
          have hl' : (l : Int) < (k : Int) + 1 := by omega
          by_cases ht : kc < kl
          · have LF : Hid (lowAt dk (k + 1) i 1 = 2 * i + 1) := by show _ = _; rw [LS'.out, if_pos ht]
            clear LS LS' HE
            go_wp2
            go_quiet (fail)
            go_wp2
            go_roundw
            case rel => exact ⟨1, _, by omega, by go_num, by rw [LF.out]; go_num, rfl⟩
            case measure => simp [intOf]
          · have LF : Hid (lowAt dk (k + 1) i 1 = l) := by show _ = _; rw [LS'.out, if_neg ht]
            have ht' : decide (kc < kl) = false := decide_eq_false ht
            clear LS LS' HE
            go_wp2
            go_quiet (fail)
            go_wp2
            go_roundw
            case rel => exact ⟨1, _, by omega, by go_num, by rw [LF.out], rfl⟩
            case measure => simp [intOf]
        · have LF : Hid (lowAt dk (k + 1) i 1 = l) := by
            have e : lowAt dk (k + 1) i 1 = if 2 * i + 1 < k + 1 ∧ K dk (2 * i + 1) < kl then 2 * i + 1 else l := LS.out
            show _ = _
            rw [e, if_neg (fun h => hc h.1)]
          have hc' : decide (2 * (i : Int) + 1 < (k : Int) + 1) = false := decide_eq_false (by omega)
          have hc3 : decide (2 * (i : Int) < (k : Int)) = false := decide_eq_false (by omega)
          have hc2 : (k : Int) + 1 ≤ 2 * (i : Int) + 1 := by omega
          clear LS HE
          go_wp2
          go_quiet (fail)
          go_wp2
          go_roundw
          case rel => exact ⟨1, _, by omega, by go_num, by rw [LF.out], rfl⟩
          case measure => simp [intOf]
      · by_cases hc : 2 * i + 2 < k + 1
        · have cc := (hcells.out (2 * i + 2) hc).1
          have LS' : Hid (lowAt dk (k + 1) i 2 = if K dk (2 * i + 2) < kl then 2 * i + 2 else l) := by
            have e : lowAt dk (k + 1) i 2 = if 2 * i + 2 < k + 1 ∧ K dk (2 * i + 2) < kl then 2 * i + 2 else l := LS.out
            rw [e]
            show (if 2 * i + 2 < k + 1 ∧ K dk (2 * i + 2) < kl then 2 * i + 2 else l) = _
            by_cases ht : K dk (2 * i + 2) < kl
            · rw [if_pos ⟨hc, ht⟩, if_pos ht]
            · rw [if_neg (fun h => ht h.2), if_neg ht]
          generalize K dk (2 * i + 2) = kc at cc LS'
          have p1 : (0 : Int) ≤ 2 * (i : Int) + 2 := by omega
          have e1 : (2 * (i : Int) + 2).toNat = 2 * i + 2 := by omega
          have hc' : 2 * (i : Int) + 2 < (k : Int) + 1 := by omega
          have hl' : (l : Int) < (k : Int) + 1 := by omega
          by_cases ht : kc < kl
          · have LF : Hid (lowAt dk (k + 1) i 2 = 2 * i + 2) := by show _ = _; rw [LS'.out, if_pos ht]
            clear LS LS' HE
            go_wp2
            go_quiet (fail)
            go_wp2
            go_roundw
            case rel => exact ⟨2, _, by omega, by go_num, by rw [LF.out]; go_num, rfl⟩
            case measure => simp [intOf]
          · have LF : Hid (lowAt dk (k + 1) i 2 = l) := by show _ = _; rw [LS'.out, if_neg ht]
            have ht' : decide (kc < kl) = false := decide_eq_false ht
            clear LS LS' HE
            go_wp2
            go_quiet (fail)
            go_wp2
            go_roundw
            case rel => exact ⟨2, _, by omega, by go_num, by rw [LF.out], rfl⟩
            case measure => simp [intOf]
        · have LF : Hid (lowAt dk (k + 1) i 2 = l) := by
            have e : lowAt dk (k + 1) i 2 = if 2 * i + 2 < k + 1 ∧ K dk (2 * i + 2) < kl then 2 * i + 2 else l := LS.out
            show _ = _
            rw [e, if_neg (fun h => hc h.1)]
          have hc' : decide (2 * (i : Int) + 2 < (k : Int) + 1) = false := decide_eq_false (by omega)
          have hc2 : (k : Int) + 1 ≤ 2 * (i : Int) + 2 := by omega
          clear LS HE
          go_wp2
          go_quiet (fail)
          go_wp2
          go_roundw
          case rel => exact ⟨2, _, by omega, by go_num, by rw [LF.out], rfl⟩
          case measure => simp [intOf]
      · have HL2 : Hid (lowAt dk dk.length i 2 = l) := by show _ = _; rw [hdk]; exact HE.out rfl
        clear LS HE
        by_cases hli : l = i
        · subst hli
          have HH : Hid (IsHeap dk) := pop_stop dk l HR.out.2.1 HL2.out
          go_wp2
          go_ret
          exact ⟨rfl, _, dk, FIN.out _ HH.out⟩
        · have HS : Hid (HeapDown (swapL dk i l) l) := pop_step dk i l HR.out.2.1 (by omega) HL2.out hli
          have hgt : i < l := by have := lowAt_form dk dk.length i; have e := HL2.out; omega
          have ci := (hcells.out i hik).1
          obtain ⟨xh, hxh, pi⟩ := (hcells.out i hik).2
          obtain ⟨yh, hyh, pl⟩ := (hcells.out l hll).2
          have cl := (hcells.out l hll).1
          generalize K dk i = xk at ci hxh
          generalize K dk l = yk at cl hyh
          have hX : Hid (dk[i]? = some (xk, xh) ∧ dk[l]? = some (yk, yh)) := ⟨hxh, hyh⟩
          have hne' : ((l : Int) == (i : Int)) = false := beq_eq_false_iff_ne.2 (by omega)
          clear hxh hyh
          go_wp2
          generalize hwq : wo.drewN q = wq
          have dq' : wq.cell? ⟨qb, 1, none⟩ = some (.slice (some ⟨g, off, none⟩) (k + 1 + 1) cap) := by rw [← hwq]; exact dq
          have ci' : wq.cell? ⟨g, off + i * 2, none⟩ = some (.int .u64 xk) := by rw [← hwq]; exact ci
          have cu' : wq.cell? ⟨g, off + l * 2, none⟩ = some (.int .u64 yk) := by rw [← hwq]; exact cl
          have pi' : wq.cell? ⟨g, off + i * 2 + 1, none⟩ = some (.pointer (some ⟨xh, 0, none⟩)) := by rw [← hwq]; exact pi
          have pu' : wq.cell? ⟨g, off + l * 2 + 1, none⟩ = some (.pointer (some ⟨yh, 0, none⟩)) := by rw [← hwq]; exact pl
          have fr' : ∀ o, wq.frozen? ⟨g, o, none⟩ = false := by rw [← hwq]; exact hfree
          have HW : Hid (wo.drewN q = wq) := hwq
          clear hwq dq ci cl pi pl hfree
          go_region
          go_wp2
          go_roundw
          case rel =>
            have o1 : Owns wq (.slice (some ⟨g, off, none⟩) (k + 1) cap) dk := by rw [← HW.out]; exact HR.out.2.2.1.drewN q
            have k1 : Ch (fun z => z = g) w wq := by rw [← HW.out]; exact HR.out.2.2.2.drewN q
            have o2 := o1.swap hdk i l hik hll (xk, xh) (yk, yh) hX.out.1 hX.out.2
            exact ⟨l, swapL dk i l, rfl, hll, by simp [hdk], (swapL_perm dk i l (by omega) (by omega)).trans HR.out.1, HS.out, o2.drew, (ch_four g _ _ _ _ _ _ _ _ k1).drew⟩
          case measure => simp [intOf]; omega
end Go.Proofs.Ybulkdeew
