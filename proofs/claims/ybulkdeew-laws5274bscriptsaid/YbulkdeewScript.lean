/-
  OWN WORK. The walk of LawS5274BScript.
-/
import Derived.Test.YbulkdeewStep
namespace Go.Proofs.Ybulkdeew
open Go.RowKit

theorem Yba.info27 : (Yba.prog.info? 27).map (fun i => (i.zero, i.size, i.bytes)) = some (some (.int .u64 0), 1, 8) := by kernel_rfl
theorem Yba.info4 : (Yba.prog.info? 4).map (fun i => (i.zero, i.size, i.bytes)) = some (some (.bool false), 1, 1) := by kernel_rfl

theorem script_start {w w1 w2 w3 : World} {kv lv sv : Value} (o1 : w1.ownsRow (w.heap.size + 1) 27 1 kv 0 []) (g1 : (w.alloc (.cells #[.slice none 0 0, .slice none 0 0] 25)).grownBy w1 none)
    (o2 : w2.ownsRow (w.heap.size + 1) 4 1 lv 0 []) (g2 : w1.grownBy w2 none) (o3 : w3.ownsRow (w.heap.size + 1) 28 1 sv 0 []) (g3 : w2.grownBy w3 none) :
    SInv w3 w.heap.size kv lv sv (.slice none 0 0) (.slice none 0 0) [] [] 0 [] [] [] ∧ Below w.heap.size w w3 := by
  have hq1 : w1.heap[w.heap.size]? = some (.cells #[.slice none 0 0, .slice none 0 0] 25 (0, 0)) := by
    rw [g1.block _ (by simp) (by simp)]; exact heap_alloc_new w _
  have l1 := (Array.getElem?_eq_some_iff.1 hq1).1
  have hq2 : w2.heap[w.heap.size]? = some (.cells #[.slice none 0 0, .slice none 0 0] 25 (0, 0)) := by
    rw [g2.block _ l1 (by simp)]; exact hq1
  have l2 := (Array.getElem?_eq_some_iff.1 hq2).1
  have hq3 : w3.heap[w.heap.size]? = some (.cells #[.slice none 0 0, .slice none 0 0] 25 (0, 0)) := by
    rw [g3.block _ l2 (by simp)]; exact hq2
  have kk2 : ∀ k, kv.ownBlock = some k → w2.heap[k]? = w1.heap[k]? := fun k hk => g2.block k (o1.lt k hk).2 (by simp)
  have kk3 : ∀ k, kv.ownBlock = some k → w3.heap[k]? = w2.heap[k]? := fun k hk => g3.block k (Nat.lt_of_lt_of_le (o1.lt k hk).2 g2.size) (by simp)
  have ll3 : ∀ k, lv.ownBlock = some k → w3.heap[k]? = w2.heap[k]? := fun k hk => g3.block k (o2.lt k hk).2 (by simp)
  refine ⟨{ q := ⟨hq3, OwnsR.nil _ _ _, OwnsR.nil _ _ _, by simp [Value.ownBlock], by simp [Value.ownBlock]⟩, asc := by simp [Asc], heapy := by intro j _ h; simp at h, kl := rfl, ll := rfl, hl := rfl, perm := by simp [liveI], keys := ((OwnsR.ofRow o1).kept kk2).kept kk3, live := (OwnsR.ofRow o2).kept ll3, hs := OwnsR.ofRow o3, held := by intro j hb h; simp at h, kb := fun x hx => by have := (o1.lt x hx).1; omega, lb := fun x hx => by have := (o2.lt x hx).1; omega, sb := fun x hx => by have := (o3.lt x hx).1; omega }, ?_⟩
  have b1 : Below w.heap.size w (w.alloc (.cells #[.slice none 0 0, .slice none 0 0] 25)) := (Below.refl _ _).alloc (Nat.le_refl _) _
  exact ((b1.grown g1 (by simp) (fun _ h => by cases h)).grown g2 (by omega) (fun _ h => by cases h)).grown g3 (by omega) (fun _ h => by cases h)

theorem one_one (a : Value) (ha : a.oneCell' = true) : ∀ u ∈ [a], u.oneCell' = true := by
  intro u hu
  simp at hu
  subst hu; assumption
theorem ch_tmp {S : Nat → Prop} {w w1 : World} (o : Obj) (h : Ch S (w.alloc o) w1) : Ch S w w1 := ((Ch.refl S w).alloc o).trans h (fun _ _ t => t)

set_option maxHeartbeats 2000000 in
theorem script_walk (b off len cap : Nat) (ao : Option Addr) (fo fk : Nat → Int) (w : World) (h2 : len ≤ 512) (hao : 0 < len → ao = some ⟨b, off, none⟩)
    (hO : ∀ i, i < len → w.cell? ⟨b, off + i * 2, none⟩ = some (.int .u8 (fo i)) ∧ w.cell? ⟨b, off + i * 2 + 1, none⟩ = some (.int .u64 (fk i))) (hob : ∀ i, i < len → 0 ≤ fo i ∧ fo i ≤ 255) :
    Calls Yba.prog 4 #[.slice ao len cap] w fun e w' => e = .returned (.bool true) ∧ Below w.heap.size w w' := by
  obtain ⟨i27, hi27, hz0, hz1, hz2⟩ := info_parts Yba.info27
  obtain ⟨i4, hi4, hy0, hy1, hy2⟩ := info_parts Yba.info4
  obtain ⟨i28, hi28, hx0, hx1, hx2⟩ := info_parts Yba.info28
  have t1 : decide (512 < (len : Int)) = false := decide_eq_false (by omega)
  have HC : Hid (∀ i, i < len → w.cell? ⟨b, off + i * 2, none⟩ = some (.int .u8 (fo i)) ∧ w.cell? ⟨b, off + i * 2 + 1, none⟩ = some (.int .u64 (fk i))) := hO
  have HB : Hid (∀ i, i < len → 0 ≤ fo i ∧ fo i ≤ 255) := hob
  have HA : Hid (0 < len → ao = some ⟨b, off, none⟩) := hao
  clear hO hob hao
  go_enter Yba.func4, Yba.ntmps4
  go_wp2_with (at_make; refine wpList_make_own _ rfl _ _ 22 rfl (w.heap.size + 1) 27 i27 (.int .u64 0) 1 Yba.underlying22 hi27 hz0 hz1 .i64 .i64 _ len rfl rfl rfl ?a2 ?a3 ?a4 ?_)
  case a2 => rw [hz2]; omega
  case a3 => unfold maxLen; omega
  case a4 => simp
  intro w1 o1 g1
  have s1 : w.heap.size + 1 ≤ w1.heap.size := by have := g1.size; simpa using this
  go_wp2_with (at_make; refine wpList_make_own _ rfl _ _ 44 rfl (w.heap.size + 1) 4 i4 (.bool false) 1 Yba.underlying44 hi4 hy0 hy1 .i64 .i64 _ len rfl rfl rfl ?b2 ?b3 ?b4 ?_)
  case b2 => rw [hy2]; omega
  case b3 => unfold maxLen; omega
  case b4 => exact s1
  intro w2 o2 g2
  have s2 : w.heap.size + 1 ≤ w2.heap.size := by have := g2.size; omega
  go_wp2_with (at_make; refine wpList_make_own _ rfl _ _ 26 rfl (w.heap.size + 1) 28 i28 (.pointer none) 1 Yba.underlying26 hi28 hx0 hx1 .i64 .i64 _ len rfl rfl rfl ?c2 ?c3 ?c4 ?_)
  case c2 => rw [hx2]; omega
  case c3 => unfold maxLen; omega
  case c4 => exact s2
  intro w3 o3 g3
  have ST : Hid _ := script_start o1 g1 o2 g2 o3 g3
  clear o1 g1 o2 g2 o3 g3 s1 s2 t1
  go_wp2
  go_loopw [4, 5, 6, 25] (fun kv lv sv si wr => ∃ j : Nat, si = .int .i64 j ∧ j ≤ len ∧ Hid (∃ rv hv run hp n ks ls hbs, n ≤ j ∧ SInv wr w.heap.size kv lv sv rv hv run hp n ks ls hbs ∧ Below w.heap.size w wr)) (fun _ _ _ si _ => len - (intOf si).toNat)
  case atStart => exact ⟨0, rfl, Nat.zero_le _, _, _, _, _, 0, _, _, _, Nat.le_refl _, ST.out.1, ST.out.2⟩
  case round =>
    obtain ⟨j, rfl, hjl, HR⟩ := hrel
    clear ST
    obtain ⟨rv, hv, run, hp, n, ks, ls, hbs, hnj, hS, hbel⟩ := HR.out
    clear HR
    obtain ⟨ak, ck, rfl⟩ := hS.keys.slice_of
    obtain ⟨al, cl, rfl⟩ := hS.live.slice_of
    obtain ⟨as', cs, rfl⟩ := hS.hs.slice_of
    have HS : Hid (SInv wr w.heap.size (.slice ak n ck) (.slice al n cl) (.slice as' n cs) rv hv run hp n ks ls hbs ∧ Below w.heap.size w wr) := ⟨hS, hbel⟩
    have hsum : run.length + hp.length ≤ n := by
      have e1 := hS.perm.length_eq
      have e2 := liveI_length ks ls hbs
      rw [hS.kl] at e2
      simp at e1
      omega
    have q0 : wr.cell? ⟨w.heap.size, 0, none⟩ = some rv := by rw [cell_of_row wr _ _ _ _ _ hS.q.q]; rfl
    have q1 : wr.cell? ⟨w.heap.size, 1, none⟩ = some hv := by rw [cell_of_row wr _ _ _ _ _ hS.q.q]; rfl
    have hqs : w.heap.size < wr.heap.size := hS.q.lt
    by_cases hlt : j < len
    · obtain rfl := HA.out (by omega)
      have hbw : b < w.heap.size := World.block_lt_of_cell? w _ (HC.out j hlt).1
      have co : wr.cell? ⟨b, off + j * 2, none⟩ = some (.int .u8 (fo j)) := (hbel.cell hbw).trans (HC.out j hlt).1
      have ckk : wr.cell? ⟨b, off + j * 2 + 1, none⟩ = some (.int .u64 (fk j)) := (hbel.cell hbw).trans (HC.out j hlt).2
      have hfo := HB.out j hlt
      generalize fo j = o at co hfo
      generalize fk j = kk at ckk
      clear hS hbel
      by_cases ho : o % 3 = 0
      · have ho' : (o % 3 == 0) = true := beq_iff_eq.2 ho
        go_wp2_with fail
        have BA : Hid (Below wr.heap.size wr (wr.alloc (.cells #[.int .u8 o, .int .u64 kk] 46))) := (Below.refl _ _).alloc (Nat.le_refl _) _
        refine (qlen_any rv hv run hp _ (HS.out.1.q.run.below BA.out) (HS.out.1.q.hp.below BA.out) (by omega)).mono ?_
        rintro e w4 ⟨rfl, hb4⟩
        have B4 : Hid (Below wr.heap.size wr w4) := BA.out.trans (hb4.mono (by simp))
        by_cases hpos : 0 < run.length + hp.length
        · have hpos' : (0 : Int) < (run.length : Int) + (hp.length : Int) := by omega
          clear hb4 co ckk
          go_wp2_with fail
          refine (check_any w.heap.size _ _ _ rv hv run hp n ks ls hbs w4 (by omega) (HS.out.1.below B4.out) hpos (by omega)).mono ?_
          rintro e w5 ⟨rfl, rv', hv', run', hp', ls', hS', hl', hb5⟩
          have NX : Hid (SInv w5 w.heap.size (.slice ak n ck) (.slice al n cl) (.slice as' n cs) rv' hv' run' hp' n ks ls' hbs ∧ Below w.heap.size w w5) := ⟨hS', HS.out.2.trans ((B4.out.mono (Nat.le_of_lt hqs)).trans hb5)⟩
          clear hS' hb5 hl'
          go_wp2
          go_roundw
          case rel => exact ⟨j + 1, by go_num, by omega, _, _, _, _, n, _, _, _, by omega, NX.out.1, NX.out.2⟩
          case measure => simp [intOf]; omega
        · have hpos' : ¬ (0 : Int) < (run.length : Int) + (hp.length : Int) := by omega
          have hpos'' : decide ((0 : Int) < (run.length : Int) + (hp.length : Int)) = false := decide_eq_false hpos'
          have NX : Hid (SInv w4 w.heap.size (.slice ak n ck) (.slice al n cl) (.slice as' n cs) rv hv run hp n ks ls hbs ∧ Below w.heap.size w w4) := ⟨HS.out.1.below B4.out, HS.out.2.trans (B4.out.mono (Nat.le_of_lt hqs))⟩
          clear hb4 co ckk
          go_wp2
          go_roundw
          case rel => exact ⟨j + 1, by go_num, by omega, _, _, _, _, n, _, _, _, by omega, NX.out.1, NX.out.2⟩
          case measure => simp [intOf]; omega
      · have ho' : (o % 3 == 0) = false := beq_eq_false_iff_ne.2 ho
        have hnb : n ≤ 512 := by omega
        have B0 : Below wr.heap.size wr ((wr.alloc (.cells #[.int .u8 o, .int .u64 kk] 46)).alloc (.cells (heldCells n) 36)) := ((Below.refl _ _).alloc (Nat.le_refl _) _).alloc (by simp) _
        have S0 : Hid (SInv ((wr.alloc (.cells #[.int .u8 o, .int .u64 kk] 46)).alloc (.cells (heldCells n) 36)) w.heap.size (.slice ak n ck) (.slice al n cl) (.slice as' n cs) rv hv run hp n ks ls hbs) := HS.out.1.below B0
        have hst0 : ((wr.alloc (.cells #[.int .u8 o, .int .u64 kk] 46)).alloc (.cells (heldCells n) 36)).heap[wr.heap.size]? = some (.cells #[.int .u8 o, .int .u64 kk] 46 (0, 0)) := by
          rw [Below.heap_alloc _ _ _ (by simp)]; exact heap_alloc_new wr _
        have hhd0 : ((wr.alloc (.cells #[.int .u8 o, .int .u64 kk] 46)).alloc (.cells (heldCells n) 36)).heap[wr.heap.size + 1]? = some (.cells (heldCells n) 36 (0, 0)) := by
          have := heap_alloc_new (wr.alloc (.cells #[.int .u8 o, .int .u64 kk] 46)) (.cells (heldCells n) 36)
          simpa using this
        have z0 : ((wr.alloc (.cells #[.int .u8 o, .int .u64 kk] 46)).alloc (.cells (heldCells n) 36)).heap.size = wr.heap.size + 2 := by simp
        have HW : Hid (Below wr.heap.size wr ((wr.alloc (.cells #[.int .u8 o, .int .u64 kk] 46)).alloc (.cells (heldCells n) 36)) ∧ ((wr.alloc (.cells #[.int .u8 o, .int .u64 kk] 46)).alloc (.cells (heldCells n) 36)).heap[wr.heap.size]? = some (.cells #[.int .u8 o, .int .u64 kk] 46 (0, 0)) ∧ ((wr.alloc (.cells #[.int .u8 o, .int .u64 kk] 46)).alloc (.cells (heldCells n) 36)).heap[wr.heap.size + 1]? = some (.cells (heldCells n) 36 (0, 0)) ∧ ((wr.alloc (.cells #[.int .u8 o, .int .u64 kk] 46)).alloc (.cells (heldCells n) 36)).heap.size = wr.heap.size + 2) := ⟨B0, hst0, hhd0, z0⟩
        clear B0 hst0 hhd0 z0
        go_wp2_with (at_builtin; refine wpList_append_ownsR _ rfl _ _ 22 rfl 27 i27 (.int .u64 0) 1 8 Yba.underlying22 hi27 hz0 hz1 hz2 rfl (by decide) (.slice ak n ck) n (ks.map keyV) rfl ?own _ [.int .u64 kk] rfl rfl ?c1 ?c2 ?b1 ?b2 ?_)
        case own => exact S0.out.keys.alloc _
        case c2 => rfl
        case b1 => unfold maxLen; omega
        case b2 => omega
        intro a1 c1 u1 o1 k1 m1
        have K1 : Hid (Ch (fun x => (Value.slice ak n ck).ownBlock = some x) ((wr.alloc (.cells #[.int .u8 o, .int .u64 kk] 46)).alloc (.cells (heldCells n) 36)) u1) := ch_tmp _ k1
        have O1 : Hid (OwnsR u1 27 1 (.slice a1 (n + 1) c1) (n + 1) (ks.map keyV ++ [keyV kk])) := o1
        have M1 : Hid (∀ x, (Value.slice a1 (n + 1) c1).ownBlock = some x → (Value.slice ak n ck).ownBlock = some x ∨ wr.heap.size + 2 ≤ x) := fun x hx => by
          rcases m1 x hx with e | e
          · exact .inl e
          · have e' : wr.heap.size + 1 + 1 + 1 ≤ x := by simpa using e
            exact .inr (by omega)
        have L1 : Hid (OwnsR u1 4 1 (.slice al n cl) n (ls.map Value.bool)) := S0.out.live.keepBy (keep_tag S0.out.keys K1.out (by decide))
        have T1 : Hid (OwnsR u1 28 1 (.slice as' n cs) n (hbs.map ptrV)) := S0.out.hs.keepBy (keep_tag S0.out.keys K1.out (by decide))
        have D1 : Hid (u1.heap[wr.heap.size]? = some (.cells #[.int .u8 o, .int .u64 kk] 46 (0, 0))) := keep_tag S0.out.keys K1.out (by decide) _ _ HW.out.2.1
        clear o1 k1 m1 co ckk q0 q1
        go_wp2_with (at_builtin; refine wpList_append_ownsR _ rfl _ _ 44 rfl 4 i4 (.bool false) 1 1 Yba.underlying44 hi4 hy0 hy1 hy2 rfl (by decide) (.slice al n cl) n (ls.map Value.bool) rfl ?own2 _ [.bool true] rfl rfl ?d1 ?d2 ?e1 ?e2 ?_)
        case own2 => exact L1.out.alloc _
        case d1 => exact cell_one_new u1 _ _
        case d2 => exact one_one _ rfl
        case e1 => unfold maxLen; omega
        case e2 => omega
        intro a2 c2 u2' o2 k2 m2
        have K2 : Hid (Ch (fun x => (Value.slice al n cl).ownBlock = some x) u1 u2') := ch_tmp _ k2
        have O2 : Hid (OwnsR u2' 4 1 (.slice a2 (n + 1) c2) (n + 1) (ls.map Value.bool ++ [Value.bool true])) := o2
        have M2 : Hid (∀ x, (Value.slice a2 (n + 1) c2).ownBlock = some x → (Value.slice al n cl).ownBlock = some x ∨ u1.heap.size ≤ x) := fun x hx => by
          rcases m2 x hx with e | e
          · exact .inl e
          · have e' : u1.heap.size + 1 ≤ x := by simpa using e
            exact .inr (by omega)
        have T2 : Hid (OwnsR u2' 28 1 (.slice as' n cs) n (hbs.map ptrV)) := T1.out.keepBy (keep_tag L1.out K2.out (by decide))
        have D2 : Hid (u2'.heap[wr.heap.size]? = some (.cells #[.int .u8 o, .int .u64 kk] 46 (0, 0))) := keep_tag L1.out K2.out (by decide) _ _ D1.out
        clear o2 k2 m2
        go_wp2_with (at_builtin; refine wpList_append_ownsR _ rfl _ _ 26 rfl 28 i28 (.pointer none) 1 8 Yba.underlying26 hi28 hx0 hx1 hx2 rfl (by decide) (.slice as' n cs) n (hbs.map ptrV) rfl ?own3 _ [.pointer (some ⟨wr.heap.size + 1, 0, none⟩)] rfl rfl ?f1 ?f2 ?g1 ?g2 ?_)
        case own3 => exact T2.out.alloc _
        case f1 => exact cell_one_new u2' _ _
        case f2 => exact one_one _ rfl
        case g1 => unfold maxLen; omega
        case g2 => omega
        intro a3 c3 u3' o3 k3 m3
        have K3 : Hid (Ch (fun x => (Value.slice as' n cs).ownBlock = some x) u2' u3') := ch_tmp _ k3
        have O3 : Hid (OwnsR u3' 28 1 (.slice a3 (n + 1) c3) (n + 1) (hbs.map ptrV ++ [ptrV (wr.heap.size + 1)])) := o3
        have M3 : Hid (∀ x, (Value.slice a3 (n + 1) c3).ownBlock = some x → (Value.slice as' n cs).ownBlock = some x ∨ u2'.heap.size ≤ x) := fun x hx => by
          rcases m3 x hx with e | e
          · exact .inl e
          · have e' : u2'.heap.size + 1 ≤ x := by simpa using e
            exact .inr (by omega)
        have D3 : u3'.heap[wr.heap.size]? = some (.cells #[.int .u8 o, .int .u64 kk] 46 (0, 0)) := keep_tag T2.out K3.out (by decide) _ _ D2.out
        have PR : Hid _ := Pre.of S0.out HW.out.2.2.1 K1.out O1.out (by rw [HW.out.2.2.2]; exact M1.out) K2.out O2.out M2.out K3.out O3.out M3.out
        have d0 : u3'.cell? ⟨wr.heap.size, 1, none⟩ = some (.int .u64 kk) := by rw [cell_of_row u3' _ _ _ _ _ D3]; rfl
        clear o3 k3 m3 D3
        go_wp2_with fail
        refine (push_any w.heap.size rv hv run hp kk (wr.heap.size + 1) u3' PR.out.1.q HS.out.1.asc HS.out.1.heapy (by omega)).mono ?_
        rintro e w6 ⟨rfl, rv', hv', run', hp', q', a', h', p', ch⟩
        have NX : Hid _ := PR.out.1.after HS.out.1.kl HS.out.1.ll HS.out.1.hl HS.out.1.perm q' a' h' p' ch
        have BN : Hid (Below w.heap.size w w6) := ((HS.out.2.trans (HW.out.1.mono (Nat.le_of_lt hqs))).trans PR.out.2).trans NX.out.2
        clear q' a' h' p' ch d0
        go_wp2
        go_roundw
        case rel => exact ⟨j + 1, by go_num, by omega, _, _, _, _, n + 1, _, _, _, by omega, NX.out.1, BN.out⟩
        case measure => simp [intOf]; omega
    · clear hS hbel
      go_wp2_with fail
      refine (qlen_any rv hv run hp wr HS.out.1.q.run HS.out.1.q.hp (by omega)).mono ?_
      rintro e w4 ⟨rfl, hb4⟩
      have S4 : Hid (SInv w4 w.heap.size (.slice ak n ck) (.slice al n cl) (.slice as' n cs) rv hv run hp n ks ls hbs ∧ Below w.heap.size w w4) := ⟨HS.out.1.below hb4, HS.out.2.trans (hb4.mono (Nat.le_of_lt hqs))⟩
      clear hb4 q0 q1 hqs HS
      go_wp2
      go_loopw [10] (fun si wr => ∃ m : Nat, si = .int .i64 m ∧ m ≤ n ∧ Hid (∃ rv hv run hp ls, run.length + hp.length = m ∧ SInv wr w.heap.size (.slice ak n ck) (.slice al n cl) (.slice as' n cs) rv hv run hp n ks ls hbs ∧ Below w.heap.size w wr)) (fun si _ => (intOf si).toNat)
      case atStart => exact ⟨run.length + hp.length, by go_num, hsum, rv, hv, run, hp, ls, rfl, S4.out.1, S4.out.2⟩
      case round =>
        obtain ⟨m, rfl, hmn, HR⟩ := hrel
        clear S4
        obtain ⟨rv, hv, run, hp, ls, hm, hS, hbel⟩ := HR.out
        clear HR
        have HM : Hid (run.length + hp.length = m) := hm
        have HS : Hid (SInv wr w.heap.size (.slice ak n ck) (.slice al n cl) (.slice as' n cs) rv hv run hp n ks ls hbs ∧ Below w.heap.size w wr) := ⟨hS, hbel⟩
        have q0 : wr.cell? ⟨w.heap.size, 0, none⟩ = some rv := by rw [cell_of_row wr _ _ _ _ _ hS.q.q]; rfl
        have q1 : wr.cell? ⟨w.heap.size, 1, none⟩ = some hv := by rw [cell_of_row wr _ _ _ _ _ hS.q.q]; rfl
        clear hm hS hbel
        by_cases hpos : 0 < m
        · go_wp2_with fail
          refine (check_any w.heap.size _ _ _ rv hv run hp n ks ls hbs wr (by omega) HS.out.1 (by have := HM.out; omega) (by have := HM.out; omega)).mono ?_
          rintro e w5 ⟨rfl, rv', hv', run', hp', ls', hS', hl', hb5⟩
          have NX : Hid (run'.length + hp'.length = m - 1 ∧ SInv w5 w.heap.size (.slice ak n ck) (.slice al n cl) (.slice as' n cs) rv' hv' run' hp' n ks ls' hbs ∧ Below w.heap.size w w5) := ⟨by have := HM.out; omega, hS', HS.out.2.trans hb5⟩
          clear hS' hb5 hl' q0 q1
          go_wp2
          go_roundw
          case rel => exact ⟨m - 1, by go_num, by omega, _, _, _, _, _, NX.out.1, NX.out.2.1, NX.out.2.2⟩
          case measure => simp [intOf]; omega
        · obtain rfl : m = 0 := by omega
          go_wp2_with fail
          refine (qlen_any rv hv run hp wr HS.out.1.q.run HS.out.1.q.hp (by have := HM.out; omega)).mono ?_
          rintro e w6 ⟨rfl, hb6⟩
          have hz : ((run.length : Int) + (hp.length : Int) == 0) = true := beq_iff_eq.2 (by have := HM.out; omega)
          have BF : Hid (Below w.heap.size w w6) := HS.out.2.trans (hb6.mono (Nat.le_of_lt HS.out.1.q.lt))
          clear hb6 q0 q1
          go_wp2
          go_ret
          exact ⟨rfl, BF.out⟩
end Go.Proofs.Ybulkdeew
