import Derived.Test.YbulkdeewQ
import Derived.Test.YbulkdeewHeap
import Derived.BigRegion
import Derived.Deep.LoopGhost
namespace Go.Proofs.Ybulkdeew
open Go.RowKit
attribute [local simp] icells_length swapL_length

theorem icells_set : ∀ (xs : Its) (i : Nat) (x : Int × Nat), icells (xs.set i x) = ((icells xs).set (i * 2) (.int .u64 x.1)).set (i * 2 + 1) (.pointer (some ⟨x.2, 0, none⟩))
  | [], _, _ => rfl
  | y :: ys, 0, x => rfl
  | y :: ys, i + 1, x => by
    rw [List.set_cons_succ, icells_cons, icells_cons, icells_set ys i x, show (i + 1) * 2 = i * 2 + 1 + 1 by omega]
    rfl

/-- The four stores of 's[i], s[j] = s[j], s[i]'. -/
theorem Owns.swap {w : World} {g off cap n : Nat} {xs : Its} (h : Owns w (.slice (some ⟨g, off, none⟩) n cap) xs) (hn : xs.length = n) (i j : Nat) (hi : i < n) (hj : j < n) (x y : Int × Nat) (hx : xs[i]? = some x) (hy : xs[j]? = some y) :
    Owns ((((w.setCell ⟨g, off + i * 2, none⟩ (.int .u64 y.1)).setCell ⟨g, off + i * 2 + 1, none⟩ (.pointer (some ⟨y.2, 0, none⟩))).setCell ⟨g, off + j * 2, none⟩ (.int .u64 x.1)).setCell ⟨g, off + j * 2 + 1, none⟩ (.pointer (some ⟨x.2, 0, none⟩)))
      (.slice (some ⟨g, off, none⟩) n cap) (swapL xs i j) := by
  subst hn
  have e1 : xs.getD i (0, 0) = x := by simp [List.getD_eq_getElem?_getD, hx]
  have e2 : xs.getD j (0, 0) = y := by simp [List.getD_eq_getElem?_getD, hy]
  unfold Owns at h ⊢
  rw [swapL_length]
  unfold swapL
  rw [e1, e2, icells_set, icells_set, Nat.add_assoc off, Nat.add_assoc off]
  exact (((h.stored _ _ (by omega)).stored _ _ (by omega)).stored _ _ (by omega)).stored _ _ (by omega)

set_option maxHeartbeats 1000000 in
/-- 'push' where the run's last is above: into the heap. -/
theorem push_heap (qb : Nat) (rv hv : Value) (run hp : Its) (m : Nat) (hm : run.length = m + 1) (k l : Int) (lh hb : Nat) (w : World) (hq : QSt w qb rv hv run hp) (hl : run[m]? = some (l, lh)) (hlk : k < l) (hbig : m ≤ 100000)
    (n : Nat) (hn : hp.length = n) (hbign : n ≤ 100000) (hheap : IsHeap hp) :
    Calls Yba.prog 5 #[.pointer (some ⟨qb, 0, none⟩), .int .u64 k, .pointer (some ⟨hb, 0, none⟩)] w fun e w' => e = .returned (.tuple #[]) ∧ ∃ hv' hp', QSt w' qb rv hv' run hp' ∧
      hp'.Perm (hp ++ [(k, hb)]) ∧ IsHeap hp' ∧ Ch (fun x => x = qb ∨ hv.ownBlock = some x) w w' := by
  obtain ⟨i0, hi, hz0, hz1, hz2⟩ := info_parts Yba.info39
  obtain ⟨g, off, cap, rfl, hcap⟩ := hq.run.some_of (by omega)
  obtain ⟨hao, hcapv, rfl⟩ := hq.hp.slice_of
  have hown := hq.run
  unfold Owns at hown
  rw [hm] at hown hcap
  have hownh : OwnsR w 39 2 (.slice hao n hcapv) n (icells hp) := by have := hq.hp; unfold Owns at this; rw [hn] at this; exact this
  have c0 : w.cell? ⟨qb, 0, none⟩ = some (.slice (some ⟨g, off, none⟩) (m + 1) cap) := by rw [cell_of_row w qb _ _ _ _ hq.q, hm]; rfl
  have c1 : w.cell? ⟨qb, 1, none⟩ = some (.slice hao n hcapv) := by rw [cell_of_row w qb _ _ _ _ hq.q, hn]; rfl
  have cl : w.cell? ⟨g, off + m * 2, none⟩ = some (.int .u64 l) := by
    rw [hown.cell (m * 2) (by omega), icells_key run m _ hl]
  have t1 : (((m : Nat) : Int) + 1 == 0) = false := beq_eq_false_iff_ne.2 (by omega)
  have t2 : decide (l ≤ k) = false := decide_eq_false (by omega)
  have HO : Hid (OwnsR w 39 2 (.slice hao n hcapv) n (icells hp)) := hownh
  clear hl hown hownh
  go_enter Yba.func5, Yba.ntmps5
  go_wp2
  go_quiet (fail)
  go_wp2_with (at_builtin; refine wpList_append_ownsR _ rfl _ _ 23 rfl 39 i0 (.agg #[.int .u64 0, .pointer none]) 2 16 Yba.underlying23 hi hz0 hz1 hz2 rfl (by decide) (.slice hao n hcapv) n (icells hp) rfl ?own _ [.int .u64 k, .pointer (some ⟨hb, 0, none⟩)] rfl rfl ?c1 ?c2 ?b1 ?b2 ?_)
  case own => exact (HO.out.drewN nq).alloc _
  case c1 => exact cell_two_new (w.drewN nq) _ _ _
  case c2 => exact two_one _ _ rfl rfl
  case b1 => unfold maxLen; omega
  case b2 => omega
  intro ao' cap' w1 hown hch hnew
  obtain ⟨g1, off1, cap1, he, hcap1⟩ := hown.some_of (by omega)
  simp only [Value.slice.injEq, true_and] at he
  obtain ⟨rfl, rfl⟩ := he
  have hch2 := ch_new _ _ _ _ hch
  have hnew2 : ∀ x, x < w.heap.size → x = g1 → (Value.slice hao hp.length hcapv).ownBlock = some x := by
    rintro x hx rfl
    rcases hnew x rfl with h | h
    · rw [hn]; exact h
    · have h' : w.heap.size + 1 ≤ x := by simpa using h
      omega
  have S0 : Hid (Owns w1 (.slice (some ⟨g1, off1, none⟩) (n + 1) cap') (hp ++ [(k, hb)]) ∧ Ch (fun x => (Value.slice hao hp.length hcapv).ownBlock = some x) w w1) :=
    ⟨by unfold Owns; rw [icells_append, List.length_append, hn]; exact hown, by rw [hn]; exact hch2⟩
  have HN : Hid (∀ x, x < w.heap.size → x = g1 → (Value.slice hao hp.length hcapv).ownBlock = some x) := hnew2
  clear HO c0 c1 cl hown hch hnew hch2 hnew2 t1 t2
  go_wp2
  go_loopw [7] (fun si wr => ∃ (i : Nat) (dk : Its), si = .int .i64 i ∧ i ≤ n ∧ dk.length = n + 1 ∧ Hid (dk.Perm (hp ++ [(k, hb)]) ∧ HeapBut dk i ∧ Owns wr (.slice (some ⟨g1, off1, none⟩) (n + 1) cap') dk ∧ Ch (fun x => (Value.slice hao hp.length hcapv).ownBlock = some x) w wr))
    (fun si _ => (intOf si).toNat)
  case atStart => exact ⟨n, hp ++ [(k, hb)], rfl, Nat.le_refl _, by simp [hn], .refl _, by rw [← hn]; exact push_start hp _ hheap, S0.out.1, S0.out.2⟩
  case round =>
    obtain ⟨i, dk, rfl, hin, hdk, HR⟩ := hrel
    clear S0
    have hqr : wr.heap[qb]? = some (.cells #[.slice (some ⟨g, off, none⟩) run.length cap, .slice hao hp.length hcapv] 25 (0, 0)) := (HR.out.2.2.2.block qb hq.lt (fun e => hq.ne_hp qb e rfl)).trans hq.q
    have dq : wr.cell? ⟨qb, 1, none⟩ = some (.slice hao hp.length hcapv) := by rw [cell_of_row wr qb _ _ _ _ hqr]; rfl
    have fq : wr.frozen? ⟨qb, 1, none⟩ = false := frozen_of_row wr qb _ _ _ hqr
    have FIN : Hid (∀ q, IsHeap dk → QSt ((wr.drewN q).setCell ⟨qb, 1, none⟩ (.slice (some ⟨g1, off1, none⟩) (n + 1) cap')) qb (.slice (some ⟨g, off, none⟩) run.length cap) (.slice (some ⟨g1, off1, none⟩) (n + 1) cap') run dk ∧ dk.Perm (hp ++ [(k, hb)]) ∧ IsHeap dk ∧ Ch (fun x => x = qb ∨ (Value.slice hao hp.length hcapv).ownBlock = some x) w ((wr.drewN q).setCell ⟨qb, 1, none⟩ (.slice (some ⟨g1, off1, none⟩) (n + 1) cap'))) := by
      intro q hh
      have := hq.setHp (HR.out.2.2.2.drewN q) (OwnsR.drewN HR.out.2.2.1 q) (fun x hx => by
        by_cases hlt : x < w.heap.size
        · exact .inl (HN.out x hlt (by simpa [Value.ownBlock] using hx.symm))
        · exact .inr (by omega))
      exact ⟨this.1, HR.out.1, hh, this.2⟩
    clear hqr
    by_cases h0 : 0 < i
    · obtain ⟨u, hu⟩ : ∃ u, u = (i - 1) / 2 := ⟨_, rfl⟩
      have hui : ((i : Int) - 1) / 2 = (u : Int) := by omega
      have hun : u < n + 1 := by omega
      have HU : Hid (u = (i - 1) / 2) := hu
      clear hu
      obtain ⟨x, hx⟩ : ∃ x, dk[i]? = some x := ⟨_, List.getElem?_eq_getElem (by omega)⟩
      obtain ⟨y, hy⟩ : ∃ y, dk[u]? = some y := ⟨_, List.getElem?_eq_getElem (by omega)⟩
      obtain ⟨xk, xh⟩ := x
      obtain ⟨yk, yh⟩ := y
      have ho := HR.out.2.2.1
      unfold Owns at ho
      rw [hdk] at ho
      have ci : wr.cell? ⟨g1, off1 + i * 2, none⟩ = some (.int .u64 xk) := by rw [ho.cell (i * 2) (by omega), icells_key dk i _ hx]
      have cu : wr.cell? ⟨g1, off1 + u * 2, none⟩ = some (.int .u64 yk) := by rw [ho.cell (u * 2) (by omega), icells_key dk u _ hy]
      have pi : wr.cell? ⟨g1, off1 + i * 2 + 1, none⟩ = some (.pointer (some ⟨xh, 0, none⟩)) := by rw [Nat.add_assoc, ho.cell (i * 2 + 1) (by omega), icells_ptr dk i _ hx]
      have pu : wr.cell? ⟨g1, off1 + u * 2 + 1, none⟩ = some (.pointer (some ⟨yh, 0, none⟩)) := by rw [Nat.add_assoc, ho.cell (u * 2 + 1) (by omega), icells_ptr dk u _ hy]
      have fr : ∀ o, wr.frozen? ⟨g1, o, none⟩ = false := fun o => ho.free o
      have hX : Hid (dk[i]? = some (xk, xh) ∧ dk[u]? = some (yk, yh)) := ⟨hx, hy⟩
      clear hx hy ho
      have hKi : K dk i = xk := by have := hX.out.1; simp [K, List.getD_eq_getElem?_getD, this]
      have hKu : K dk u = yk := by have := hX.out.2; simp [K, List.getD_eq_getElem?_getD, this]
      by_cases ht : yk ≤ xk
      · have HH : Hid (IsHeap dk) := push_stop dk i HR.out.2.1 (.inr (by rw [← HU.out, hKi, hKu]; exact ht))
        clear hKi hKu
        go_wp2
        go_quiet (fail)
        go_wp2
        go_end0
        exact ⟨rfl, _, dk, FIN.out _ HH.out⟩
      · have ht' : decide (yk ≤ xk) = false := decide_eq_false ht
        have HS : Hid (HeapBut (swapL dk u i) u) := by rw [HU.out]; exact push_step dk i HR.out.2.1 h0 (by omega) (by rw [← HU.out, hKi, hKu]; omega)
        clear hKi hKu
        go_wp2
        go_quiet (fail)
        go_wp2
        generalize hwq : wr.drewN nq = wq
        have dq' : wq.cell? ⟨qb, 1, none⟩ = some (.slice hao hp.length hcapv) := by rw [← hwq]; exact dq
        have ci' : wq.cell? ⟨g1, off1 + i * 2, none⟩ = some (.int .u64 xk) := by rw [← hwq]; exact ci
        have cu' : wq.cell? ⟨g1, off1 + u * 2, none⟩ = some (.int .u64 yk) := by rw [← hwq]; exact cu
        have pi' : wq.cell? ⟨g1, off1 + i * 2 + 1, none⟩ = some (.pointer (some ⟨xh, 0, none⟩)) := by rw [← hwq]; exact pi
        have pu' : wq.cell? ⟨g1, off1 + u * 2 + 1, none⟩ = some (.pointer (some ⟨yh, 0, none⟩)) := by rw [← hwq]; exact pu
        have fr' : ∀ o, wq.frozen? ⟨g1, o, none⟩ = false := by rw [← hwq]; exact fr
        have HW : Hid (wr.drewN nq = wq) := hwq
        clear hwq dq ci cu pi pu fr
        go_region
        go_wp2
        go_roundw
        case rel =>
          have o1 : Owns wq (.slice (some ⟨g1, off1, none⟩) (n + 1) cap') dk := by rw [← HW.out]; exact HR.out.2.2.1.drewN nq
          have k1 : Ch (fun x => (Value.slice hao hp.length hcapv).ownBlock = some x) w wq := by rw [← HW.out]; exact HR.out.2.2.2.drewN nq
          have o2 := o1.swap hdk u i hun (by omega) (yk, yh) (xk, xh) hX.out.2 hX.out.1
          have hs : g1 < w.heap.size → (Value.slice hao hp.length hcapv).ownBlock = some g1 := fun h => HN.out g1 h rfl
          exact ⟨u, swapL dk u i, rfl, by omega, by simp [hdk], (swapL_perm dk u i (by omega) (by omega)).trans HR.out.1, HS.out, o2.drew, ((((k1.setCell _ _ hs).setCell _ _ hs).setCell _ _ hs).setCell _ _ hs).drew⟩
        case measure => simp [intOf]; have := HU.out; omega
    · have HH : Hid (IsHeap dk) := push_stop dk i HR.out.2.1 (.inl (by omega))
      obtain rfl : i = 0 := by omega
      go_wp2
      go_end0
      exact ⟨rfl, _, dk, FIN.out 0 HH.out⟩
end Go.Proofs.Ybulkdeew
