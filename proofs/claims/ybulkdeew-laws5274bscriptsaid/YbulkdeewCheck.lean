/-
  OWN WORK. zzs5274bcheck.
-/
import Derived.Test.YbulkdeewSInv
import Derived.Test.YbulkdeewMin
namespace Go.Proofs.Ybulkdeew
open Go.RowKit

theorem ptr_same_neq (W' : World) (xh : Nat) : (binOp .neq 28 (.pointer (some ⟨xh, 0, none⟩)) (.pointer (some ⟨xh, 0, none⟩))).run Yba.prog W' = .ok (.bool false) W' := by
  obtain ⟨j, hj⟩ := Option.isSome_iff_exists.1 Yba.info36
  have h : ∀ d : Nat, (Op.equalIn (d + 1) 28 (.pointer (some ⟨xh, 0, none⟩)) (.pointer (some ⟨xh, 0, none⟩))).run Yba.prog W' = .ok true W' := fun d => by
    simp [Op.equalIn, run_underlying Yba.underlying28, sizeOf, typeInfo, hj, run_sameAddr_same]
  simp only [binOp]
  simp [Op.equal, Op.maxDepth, h 9999]

/-- Behind the pop and the store into live. -/
theorem SInv.killed {w4 w5 w6 : World} {qb n gl ol cl a xh : Nat} {xk : Int} {kv sv rv hv rv' hv' : Value} {run hp run' hp' : Its} {ks : List Int} {ls : List Bool} {hbs : List Nat}
    (h : SInv w4 qb kv (.slice (some ⟨gl, ol, none⟩) n cl) sv rv hv run hp n ks ls hbs)
    (ch : Ch (fun x => x = qb ∨ rv.ownBlock = some x ∨ hv.ownBlock = some x) w4 w5) (q' : QSt w5 qb rv' hv' run' hp') (a' : Asc run') (h' : IsHeap hp') (p' : ((xk, xh) :: (run' ++ hp')).Perm (run ++ hp))
    (hb : Below w5.heap.size w5 w6) (ha : a < n) (e1 : ls[a]? = some true) (e2 : ks[a]? = some xk) (e3 : hbs[a]? = some xh) :
    SInv (w6.setCell ⟨gl, ol + a, none⟩ (.bool false)) qb kv (.slice (some ⟨gl, ol, none⟩) n cl) sv rv' hv' run' hp' n ks (ls.set a false) hbs ∧
      run'.length + hp'.length + 1 = run.length + hp.length ∧ Below qb w4 (w6.setCell ⟨gl, ol + a, none⟩ (.bool false)) := by
  obtain ⟨c1, c2, c3, c4⟩ := h.ch ch
  obtain ⟨cur, hcur, _, _⟩ := (c2.below hb).block
  have hq6 : QSt w6 qb rv' hv' run' hp' := q'.kept fun x hx => hb.block x (by
      rcases hx with rfl | e | e
      · exact q'.lt
      · exact (q'.run.ownBlock_lt x e).1
      · exact (q'.hp.ownBlock_lt x e).1)
  have other : ∀ (x : Nat) (c : Array Value) (t : TypeId), t ≠ 4 → w6.heap[x]? = some (.cells c t (0, 0)) → x ≠ gl := by
    rintro x c t ht hx rfl
    rw [hcur] at hx
    simp at hx
    exact ht hx.2.symm
  refine ⟨{ q := hq6.stored _ _ hcur (by decide) (by have := h.lb gl rfl; show gl ≠ qb; omega), asc := a', heapy := h', kl := h.kl, ll := by rw [List.length_set]; exact h.ll, hl := h.hl, perm := ?_, keys := ?_, live := ?_, hs := ?_, held := ?_, kb := h.kb, lb := h.lb, sb := h.sb }, ?_, ?_⟩
  · have k1 := liveI_kill ks ls hbs a xk xh e1 e2 e3
    exact List.Perm.cons_inv (p'.trans (h.perm.trans k1))
  · refine (c1.below hb).stored_other _ _ ?_
    intro k hk
    obtain ⟨_, c, hc⟩ := (c1.below hb).ownBlock_lt k hk
    exact other k c 27 (by decide) hc
  · have := (c2.below hb).stored a (.bool false) (by omega)
    rw [List.map_set]
    exact this
  · refine (c3.below hb).stored_other _ _ ?_
    intro k hk
    obtain ⟨_, c, hc⟩ := (c3.below hb).ownBlock_lt k hk
    exact other k c 28 (by decide) hc
  · intro j x hj
    have h5 := c4 j x hj
    have h6 : w6.heap[x]? = some (.cells (heldCells j) 36 (0, 0)) := (hb.block x (Array.getElem?_eq_some_iff.1 h5).1).trans h5
    rw [Below.heap_setCell _ _ _ _ (other x _ 36 (by decide) h6)]
    exact h6
  · have := p'.length_eq
    simp at this
    omega
  · have hlt := h.q.lt
    have b1 : Below qb w4 w5 := ch.toBelow (by omega) (fun x _ hS => by
      rcases hS with rfl | e | e
      · exact Nat.le_refl _
      · exact Nat.le_of_lt (h.q.base x (.inl e))
      · exact Nat.le_of_lt (h.q.base x (.inr e)))
    have hsz := ch.size
    exact (b1.trans (hb.mono (by omega))).setCell (by have := h.lb gl rfl; show qb ≤ gl; omega) _

set_option maxHeartbeats 2000000 in
theorem check_any (qb : Nat) (kv lv sv rv hv : Value) (run hp : Its) (n : Nat) (ks : List Int) (ls : List Bool) (hbs : List Nat) (w : World) (hn : n ≤ 1024)
    (h : SInv w qb kv lv sv rv hv run hp n ks ls hbs) (hne : 0 < run.length + hp.length) (hbig : run.length + hp.length ≤ 100000) :
    Calls Yba.prog 8 #[.pointer (some ⟨qb, 0, none⟩), kv, lv, sv] w fun e w' => e = .returned (.bool true) ∧ ∃ rv' hv' run' hp' ls', SInv w' qb kv lv sv rv' hv' run' hp' n ks ls' hbs ∧
      run'.length + hp'.length + 1 = run.length + hp.length ∧ Below qb w w' := by
  obtain ⟨a, xk, xh, e1, e2, e3, e4, e5, e6⟩ := h.lowest hne
  obtain ⟨gk, ok, ck, rfl, hck⟩ := h.keys.some_of (by omega)
  obtain ⟨gl, ol, cl, rfl, hcl⟩ := h.live.some_of (by omega)
  obtain ⟨gs, os, cs, rfl, hcs⟩ := h.hs.some_of (by omega)
  have HI : Hid (SInv w qb (.slice (some ⟨gk, ok, none⟩) n ck) (.slice (some ⟨gl, ol, none⟩) n cl) (.slice (some ⟨gs, os, none⟩) n cs) rv hv run hp n ks ls hbs) := h
  have hK : Hid (∀ j, j < n → w.cell? ⟨gk, ok + j, none⟩ = some (.int .u64 (ks.getD j 0))) := fun j hj => by
    rw [h.keys.cell j (by omega), List.getElem?_map, List.getD_eq_getElem?_getD, List.getElem?_eq_getElem (by rw [h.kl]; exact hj)]; rfl
  have hL : Hid (∀ j, j < n → w.cell? ⟨gl, ol + j, none⟩ = some (.bool (ls.getD j false))) := fun j hj => by
    rw [h.live.cell j (by omega), List.getElem?_map, List.getD_eq_getElem?_getD, List.getElem?_eq_getElem (by rw [h.ll]; exact hj)]; rfl
  have ck0 : w.cell? ⟨gk, ok + a, none⟩ = some (.int .u64 xk) := by rw [hK.out a e2, List.getD_eq_getElem?_getD, e4]; rfl
  have cl0 : w.cell? ⟨gl, ol + a, none⟩ = some (.bool true) := by rw [hL.out a e2, List.getD_eq_getElem?_getD, e3]; rfl
  have cs0 : w.cell? ⟨gs, os + a, none⟩ = some (.pointer (some ⟨xh, 0, none⟩)) := by rw [h.hs.cell a (by omega), List.getElem?_map, e5]; rfl
  have cr0 : w.cell? ⟨xh, 8, none⟩ = some (.int .u64 a) := by rw [cell_of_row w _ _ _ _ _ (h.held a xh e5)]; rfl
  have q0 : w.cell? ⟨qb, 0, none⟩ = some rv := by rw [cell_of_row w _ _ _ _ _ h.q.q]; rfl
  have q1 : w.cell? ⟨qb, 1, none⟩ = some hv := by rw [cell_of_row w _ _ _ _ _ h.q.q]; rfl
  have E : Hid (low run hp = (xk, xh) ∧ ls[a]? = some true ∧ ks[a]? = some xk ∧ hbs[a]? = some xh ∧ scanTo ks ls n = (true, xk)) := ⟨e1, e3, e4, e5, e6⟩
  clear e1 e3 e4 e5 e6 h
  go_enter Yba.func8, Yba.ntmps8
  go_wp2
  go_loop [9, 10, 11] (fun f m i => ∃ j : Nat, j ≤ n ∧ i = .int .i64 j ∧ f = .bool (scanTo ks ls j).1 ∧ m = .int .u64 (scanTo ks ls j).2) (fun _ _ i => n - (intOf i).toNat)
  case atStart => exact ⟨0, Nat.zero_le _, rfl, rfl, rfl⟩
  case round =>
    obtain ⟨j, hj, rfl, rfl, rfl⟩ := hrel
    by_cases hjn : j < n
    · have cK := hK.out j hjn
      have cL := hL.out j hjn
      have SC : Hid (scanTo ks ls (j + 1) = if ls.getD j false && (!(scanTo ks ls j).1 || decide (ks.getD j 0 < (scanTo ks ls j).2)) then (true, ks.getD j 0) else scanTo ks ls j) := rfl
      generalize ks.getD j 0 = kj at cK SC
      generalize ls.getD j false = lj at cL SC
      generalize scanTo ks ls j = st at SC
      obtain ⟨f, mm⟩ := st
      clear ck0 cl0 cs0 cr0 q0 q1
      cases lj
      · have SF : Hid (scanTo ks ls (j + 1) = (f, mm)) := SC.out
        clear SC
        go_wp2
        go_round
        case rel => exact ⟨j + 1, by omega, by go_num, by rw [SF.out], by rw [SF.out]⟩
        case measure => simp [intOf]; omega
      · cases f
        · have SF : Hid (scanTo ks ls (j + 1) = (true, kj)) := SC.out
          clear SC
          go_wp2
          go_round
          case rel => exact ⟨j + 1, by omega, by go_num, by rw [SF.out], by rw [SF.out]⟩
          case measure => simp [intOf]; omega
        · by_cases ht : kj < mm
          · have SF : Hid (scanTo ks ls (j + 1) = (true, kj)) := by show _ = _; rw [SC.out]; simp [ht]
            clear SC
            go_wp2
            go_round
            case rel => exact ⟨j + 1, by omega, by go_num, by rw [SF.out], by rw [SF.out]⟩
            case measure => simp [intOf]; omega
          · have SF : Hid (scanTo ks ls (j + 1) = (true, mm)) := by show _ = _; rw [SC.out]; simp [ht]
            clear SC
            have ht' : decide (kj < mm) = false := decide_eq_false ht
            go_wp2
            go_round
            case rel => exact ⟨j + 1, by omega, by go_num, by rw [SF.out], by rw [SF.out]⟩
            case measure => simp [intOf]; omega
    · obtain rfl : j = n := by omega
      rw [E.out.2.2.2.2]
      go_wp2_with fail
      refine (lowest_any rv hv run hp w HI.out.q.run HI.out.q.hp hne).mono ?_
      rintro e w1 ⟨rfl, hb1⟩
      rw [E.out.1]
      have ck1 := cell_later hb1 ck0
      have cl1 := cell_later hb1 cl0
      have cs1 := cell_later hb1 cs0
      have cr1 := cell_later hb1 cr0
      have q01 := cell_later hb1 q0
      have q11 := cell_later hb1 q1
      have s1 : gk < w1.heap.size := World.block_lt_of_cell? w1 _ ck1
      have s2 : gl < w1.heap.size := World.block_lt_of_cell? w1 _ cl1
      have s3 : gs < w1.heap.size := World.block_lt_of_cell? w1 _ cs1
      have s4 : xh < w1.heap.size := World.block_lt_of_cell? w1 _ cr1
      have s5 : qb < w1.heap.size := World.block_lt_of_cell? w1 _ q01
      have HB1 : Hid (Below w.heap.size w w1) := hb1
      have pe : ∀ W' : World, (binOp .neq 28 (.pointer (some ⟨xh, 0, none⟩)) (.pointer (some ⟨xh, 0, none⟩))).run Yba.prog W' = .ok (.bool false) W' := fun W' => ptr_same_neq W' xh
      have ej : (a : Int) < (j : Int) := by omega
      have ej2 : decide (j ≤ a) = false := decide_eq_false (by omega)
      clear ck0 cl0 cs0 cr0 q0 q1 hb1
      go_wp2
      have B2 : Hid (Below w.heap.size w (w1.alloc (.cells #[.int .u64 xk, .pointer (some ⟨xh, 0, none⟩)] 39))) := HB1.out.alloc HB1.out.size _
      have k0 := cell_alloc_old (o := .cells #[.int .u64 xk, .pointer (some ⟨xh, 0, none⟩)] 39) ck1
      have k1 := cell_alloc_old (o := .cells #[.int .u64 xk, .pointer (some ⟨xh, 0, none⟩)] 39) cl1
      have k2 := cell_alloc_old (o := .cells #[.int .u64 xk, .pointer (some ⟨xh, 0, none⟩)] 39) cs1
      have k3 := cell_alloc_old (o := .cells #[.int .u64 xk, .pointer (some ⟨xh, 0, none⟩)] 39) q01
      have k4 := cell_alloc_old (o := .cells #[.int .u64 xk, .pointer (some ⟨xh, 0, none⟩)] 39) q11
      have k5 : (w1.alloc (.cells #[.int .u64 xk, .pointer (some ⟨xh, 0, none⟩)] 39)).cell? ⟨w1.heap.size, 1, none⟩ = some (.pointer (some ⟨xh, 0, none⟩)) := by simp
      have hlw : w.heap.size ≤ w1.heap.size := HB1.out.size
      clear ck1 cl1 cs1 cr1 q01 q11
      generalize w1.alloc (.cells #[.int .u64 xk, .pointer (some ⟨xh, 0, none⟩)] 39) = W2 at B2 k0 k1 k2 k3 k4 k5
      go_quiet (fail)
      go_wp2_with fail
      refine (qlen_any rv hv run hp _ (OwnsR.drewN (HI.out.q.run.below B2.out) _) (OwnsR.drewN (HI.out.q.hp.below B2.out) _) (by omega)).mono ?_
      rintro e w4 ⟨rfl, hb4⟩
      have hb4' : Below W2.heap.size W2 w4 := ⟨hb4.os, hb4.tape, hb4.output, hb4.size, hb4.block⟩
      have B4 : Hid (Below w.heap.size w w4) := B2.out.trans (hb4'.mono B2.out.size)
      have m1 := cell_later hb4' k1
      have m5 := cell_later hb4' k5
      have I4 : Hid (SInv w4 qb (.slice (some ⟨gk, ok, none⟩) j ck) (.slice (some ⟨gl, ol, none⟩) j cl) (.slice (some ⟨gs, os, none⟩) j cs) rv hv run hp j ks ls hbs) := HI.out.below B4.out
      clear k0 k1 k2 k3 k4 k5 hb4 hb4'
      go_wp2_with fail
      refine (pop_any qb rv hv run hp w4 I4.out.q I4.out.asc I4.out.heapy hne hbig).mono ?_
      rintro e w5 ⟨rfl, rv', hv', run', hp', q', a', h', p', ch⟩
      rw [E.out.1]
      have nin : ¬ (w1.heap.size = qb ∨ rv.ownBlock = some w1.heap.size ∨ hv.ownBlock = some w1.heap.size) := by
        rintro (e | e | e)
        · omega
        · have := (HI.out.q.run.ownBlock_lt _ e).1; omega
        · have := (HI.out.q.hp.ownBlock_lt _ e).1; omega
      have it5 : w5.cell? ⟨w1.heap.size, 1, none⟩ = some (.pointer (some ⟨xh, 0, none⟩)) :=
        (World.cell?_of_block (w := w4) (ch.block w1.heap.size (World.block_lt_of_cell? w4 _ m5) nin)).trans m5
      clear nin
      have z0 : w5.cell? ⟨qb, 0, none⟩ = some rv' := by rw [cell_of_row w5 _ _ _ _ _ q'.q]; rfl
      have z1 : w5.cell? ⟨qb, 1, none⟩ = some hv' := by rw [cell_of_row w5 _ _ _ _ _ q'.q]; rfl
      have hlen : run'.length + hp'.length + 1 = run.length + hp.length := by
        have := p'.length_eq; simp at this; omega
      have PP : Hid (QSt w5 qb rv' hv' run' hp' ∧ Asc run' ∧ IsHeap hp' ∧ ((xk, xh) :: (run' ++ hp')).Perm (run ++ hp) ∧ Ch (fun x => x = qb ∨ rv.ownBlock = some x ∨ hv.ownBlock = some x) w4 w5) := ⟨q', a', h', by rw [← E.out.1]; exact p', ch⟩
      clear q' a' h' p' ch m1 m5
      go_wp2_with fail
      refine (qlen_any rv' hv' run' hp' w5 PP.out.1.run PP.out.1.hp (by omega)).mono ?_
      rintro e w6 ⟨rfl, hb6⟩
      have FIN : Hid _ := I4.out.killed PP.out.2.2.2.2 PP.out.1 PP.out.2.1 PP.out.2.2.1 PP.out.2.2.2.1 hb6 e2 E.out.2.1 E.out.2.2.1 E.out.2.2.2.1
      have L6 : OwnsR w6 4 1 (.slice (some ⟨gl, ol, none⟩) j cl) j (ls.map Value.bool) := (I4.out.ch PP.out.2.2.2.2).2.1.below hb6
      have n0 : w6.cell? ⟨gl, ol + a, none⟩ = some (.bool true) := by rw [L6.cell a (by omega), List.getElem?_map, E.out.2.1]; rfl
      have n1 : w6.frozen? ⟨gl, ol + a, none⟩ = false := L6.free _
      have hnl : ((run'.length : Int) + (hp'.length : Int) != (run.length : Int) + (hp.length : Int) - 1) = false := by
        rw [bne_eq_false_iff_eq]; omega
      clear L6 it5 z0 z1 hb6
      go_wp2
      go_ret
      exact ⟨rfl, _, _, _, _, _, FIN.out.1, FIN.out.2.1, (B4.out.mono (Nat.le_of_lt HI.out.q.lt)).trans FIN.out.2.2⟩
end Go.Proofs.Ybulkdeew
