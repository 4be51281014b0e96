import Derived.Test.YbulkdeewMinInv
import Derived.Lib.QuietBelow
import Derived.LaidEqlPtr
namespace Go.Proofs.Ybulkdeew
open Go.RowKit Go.Sort
attribute [local simp] icells_length swapL_length

theorem Yba.info28 : (Yba.prog.info? 28).map (fun i => (i.zero, i.size, i.bytes)) = some (some (.pointer none), 1, 8) := by kernel_rfl

/-- Where nothing has been pushed. -/
theorem min_start (w wm : World) (len : Nat) (zs : List Int) (hown : wm.ownsRow (w.heap.size + 1) 28 1 (.slice (some ⟨w.heap.size + 1, 0, none⟩) len len) len (madeCells #[Value.pointer none] len).toList)
    (hg : (w.alloc (.cells #[.slice none 0 0, .slice none 0 0] 25)).grownBy wm none) :
    MinInv w w.heap.size len zs 0 (.slice none 0 0) (.slice none 0 0) [] [] [] wm := by
  have hq : wm.heap[w.heap.size]? = some (.cells #[.slice none 0 0, .slice none 0 0] 25 (0, 0)) := by
    rw [hg.block _ (by simp) (by simp)]; exact heap_alloc_new w _
  refine ⟨rfl, ⟨hq, OwnsR.nil _ _ _, OwnsR.nil _ _ _, by simp [Value.ownBlock], by simp [Value.ownBlock]⟩, by simp [Asc], by intro j _ h; simp at h, by simp, ?_, by simp, ?_⟩
  · have := OwnsR.ofRow hown
    rw [toList_madeCells_one] at this
    exact this
  · exact ((Below.refl _ _).alloc (Nat.le_refl _) _).grown hg (by simp) (fun _ h => by cases h)

def minTo (zs : List Int) : Nat → Int
  | 0 => zs.getD 0 0
  | j + 1 => if zs.getD (j + 1) 0 < minTo zs j then zs.getD (j + 1) 0 else minTo zs j
theorem minTo_le (zs : List Int) : ∀ j i, i ≤ j → minTo zs j ≤ zs.getD i 0
  | 0, i, h => by
    obtain rfl : i = 0 := by omega
    exact Int.le_refl _
  | j + 1, i, h => by
    unfold minTo
    by_cases e : i = j + 1
    · subst e; split <;> omega
    · have := minTo_le zs j i (by omega); split <;> omega

theorem minTo_is (zs : List Int) : ∀ j, ∃ i, i ≤ j ∧ minTo zs j = zs.getD i 0
  | 0 => ⟨0, Nat.le_refl _, rfl⟩
  | j + 1 => by
    obtain ⟨i, hi, h⟩ := minTo_is zs j
    unfold minTo
    split
    · exact ⟨j + 1, Nat.le_refl _, rfl⟩
    · exact ⟨i, by omega, h⟩

theorem min_facts {w : World} {B len : Nat} {zs : List Int} {rv hv : Value} {run hp : Its} {hbs : List Nat} {wr : World} (R : MinInv w B len zs len rv hv run hp hbs wr) (h1 : 1 ≤ len) (hz : len ≤ zs.length) :
    ∃ a xk xh, low run hp = (xk, xh) ∧ a < len ∧ hbs[a]? = some xh ∧ zs.getD a 0 = xk ∧ minTo zs (len - 1) = xk ∧ run.length + hp.length = len := by
  have hsum : run.length + hp.length = len := by
    have := R.perm.length_eq
    simp [R.hl] at this
    omega
  have hm := (R.perm.mem_iff).1 (low_mem run hp (by omega))
  have hle := low_least run hp R.asc R.heap
  have hz' : ∀ j (hj : j < len), ((zs.take len).zip hbs)[j]? = some (zs.getD j 0, hbs[j]'(by rw [R.hl]; exact hj)) := by
    intro j hj
    rw [List.getElem?_zip_eq_some]
    refine ⟨?_, List.getElem?_eq_getElem _⟩
    rw [List.getElem?_take, if_pos hj, List.getD_eq_getElem?_getD, List.getElem?_eq_getElem (show j < zs.length by omega)]
    rfl
  obtain ⟨a, ha, hae⟩ := List.getElem_of_mem hm
  have hal : a < len := by simp [R.hl] at ha; omega
  have h2 := hz' a hal
  rw [List.getElem?_eq_getElem ha, hae] at h2
  simp only [Option.some.injEq] at h2
  refine ⟨a, _, _, h2, hal, List.getElem?_eq_getElem _, rfl, ?_, hsum⟩
  obtain ⟨i, hi, he⟩ := minTo_is zs (len - 1)
  have u1 := minTo_le zs (len - 1) a (by omega)
  have u2 := hle (zs.getD i 0, hbs[i]'(by rw [R.hl]; omega)) (R.perm.mem_iff.2 (List.mem_of_getElem? (hz' i (by omega))))
  rw [h2] at u2
  simp only at u2
  omega

theorem Yba.info36 : (Yba.prog.info? 36).isSome = true := by kernel_rfl
theorem ptr_same (W' : World) (xh : Nat) : (binOp .eql 28 (.pointer (some ⟨xh, 0, none⟩)) (.pointer (some ⟨xh, 0, none⟩))).run Yba.prog W' = .ok (.bool true) W' := by
  obtain ⟨j, hj⟩ := Option.isSome_iff_exists.1 Yba.info36
  exact run_eql_ptr_same W' ⟨xh, 0, none⟩ Yba.underlying28 hj

set_option maxHeartbeats 1000000 in
theorem min_walk (b off len cap : Nat) (zs : List Int) (w : World) (h1 : 1 ≤ len) (h2 : len ≤ 1024) (hlc : len ≤ cap) (hz : zs.length = cap)
    (hc : ∀ i, i < zs.length → w.cell? ⟨b, off + i, none⟩ = some (.int .u64 (zs.getD i 0))) :
    Calls Yba.prog 3 #[.slice (some ⟨b, off, none⟩) len cap] w fun e w' => e = .returned (.bool true) ∧ Below w.heap.size w w' := by
  obtain ⟨i0, hi, hz0, hz1, hz2⟩ := info_parts Yba.info28
  have t0 : ((len : Int) == 0) = false := beq_eq_false_iff_ne.2 (by omega)
  have t1 : decide (1024 < (len : Int)) = false := decide_eq_false (by omega)
  have hbw : b < w.heap.size := World.block_lt_of_cell? w _ (hc 0 (by omega))
  have HC : Hid (∀ i, i < zs.length → w.cell? ⟨b, off + i, none⟩ = some (.int .u64 (zs.getD i 0))) := hc
  clear hc
  go_enter Yba.func3, Yba.ntmps3
  go_wp2_with (at_make; refine wpList_make_full _ rfl _ _ 26 rfl (w.heap.size + 1) 28 i0 (.pointer none) 1 Yba.underlying26 hi hz0 hz1 .i64 .i64 _ _ len rfl rfl rfl rfl ?b2 ?b3 ?b4 ?_)
  case b2 => rw [hz2]; omega
  case b3 => unfold maxLen; omega
  case b4 => simp
  intro wm hown hg
  have HS : Hid (MinInv w w.heap.size len zs 0 (.slice none 0 0) (.slice none 0 0) [] [] [] wm) := min_start w wm len zs hown hg
  clear hown hg hi hz0 hz1 hz2
  go_wp2
  go_loopw [26] (fun si wr => ∃ i : Nat, si = .int .i64 i ∧ i ≤ len ∧ Hid (∃ rv hv run hp hbs, MinInv w w.heap.size len zs i rv hv run hp hbs wr)) (fun si _ => len - (intOf si).toNat)
  case atStart => exact ⟨0, rfl, Nat.zero_le _, _, _, _, _, _, HS.out⟩
  case round =>
    obtain ⟨i, rfl, hil, HR⟩ := hrel
    clear HS
    obtain ⟨rv, hv, run, hp, hbs, R⟩ := HR.out
    clear HR
    have HR : Hid (MinInv w w.heap.size len zs i rv hv run hp hbs wr) := R
    by_cases hlt : i < len
    · have ck : wr.cell? ⟨b, off + i, none⟩ = some (.int .u64 (zs.getD i 0)) := (R.bel.cell hbw).trans (HC.out i (by omega))
      have hsz : w.heap.size + 1 < wr.heap.size := by obtain ⟨cur, hcur⟩ := R.hsBlock; exact (Array.getElem?_eq_some_iff.1 hcur).1
      have chs : wr.cell? ⟨w.heap.size + 1, i, none⟩ = some (.pointer none) := by
        have := R.hs.cell i (by omega)
        rw [Nat.zero_add] at this
        rw [this, List.getElem?_append_right (by simp [R.hl]), List.length_map, R.hl, Nat.sub_self, List.getElem?_replicate, if_pos (by omega)]
      have fhs : wr.frozen? ⟨w.heap.size + 1, i, none⟩ = false := R.hs.free i
      have HP : Hid (QSt ((wr.alloc (.cells (heldCells i) 36)).setCell ⟨w.heap.size + 1, i, none⟩ (ptrV wr.heap.size)) w.heap.size rv hv run hp) := R.before
      have hsum : run.length + hp.length ≤ 100000 := by
        have := R.perm.length_eq
        simp [R.hl] at this
        omega
      have HA : Hid (Asc run ∧ IsHeap hp) := ⟨R.asc, R.heap⟩
      obtain ⟨zi, hzi⟩ : ∃ z, z = zs.getD i 0 := ⟨_, rfl⟩
      rw [← hzi] at ck
      have HZ : Hid (zi = zs.getD i 0) := hzi
      clear R hzi
      go_wp2_with fail
      rw [← World.setCell_alloc_past _ _ _ _ hsz]
      refine (push_any _ rv hv run hp zi wr.heap.size _ HP.out HA.out.1 HA.out.2 hsum).mono ?_
      rintro e w' ⟨rfl, rv', hv', run', hp', q', a', h', p', ch⟩
      have NX : Hid (MinInv w w.heap.size len zs (i + 1) rv' hv' run' hp' (hbs ++ [wr.heap.size]) w') := HR.out.after hlt (by omega) q' a' h' (by rw [← HZ.out]; exact p') ch
      clear q' a' h' p' ch HP HA HR chs fhs ck
      go_wp2
      go_roundw
      case rel => exact ⟨i + 1, by go_num, by omega, _, _, _, _, _, NX.out⟩
      case measure => simp [intOf]; omega
    · obtain rfl : i = len := by omega
      have cell : Hid (∀ j, j < i → wr.cell? ⟨b, off + j, none⟩ = some (.int .u64 (zs.getD j 0))) := fun j hj => (R.bel.cell hbw).trans (HC.out j (by omega))
      have c0 : wr.cell? ⟨b, off, none⟩ = some (.int .u64 (zs.getD 0 0)) := cell.out 0 (by omega)
      have HM : Hid (minTo zs 0 = zs.getD 0 0) := rfl
      generalize zs.getD 0 0 = z0 at c0 HM
      clear R HC
      obtain ⟨a, xk, xh, e1, e2, e3, e4, e5, e6⟩ := min_facts HR.out h1 (by omega)
      have ca : wr.cell? ⟨b, off + a, none⟩ = some (.int .u64 xk) := by rw [← e4]; exact cell.out a e2
      have q0 : wr.cell? ⟨w.heap.size, 0, none⟩ = some rv := by rw [cell_of_row wr _ _ _ _ _ HR.out.q.q]; rfl
      have q1 : wr.cell? ⟨w.heap.size, 1, none⟩ = some hv := by rw [cell_of_row wr _ _ _ _ _ HR.out.q.q]; rfl
      have ch : wr.cell? ⟨w.heap.size + 1, a, none⟩ = some (.pointer (some ⟨xh, 0, none⟩)) := by
        have := HR.out.hs.cell a (by omega)
        rw [Nat.zero_add] at this
        rw [this, List.getElem?_append_left (by simp [HR.out.hl]; exact e2), List.getElem?_map, e3]; rfl
      have cr : wr.cell? ⟨xh, 8, none⟩ = some (.int .u64 a) := by rw [cell_of_row wr _ _ _ _ _ (HR.out.held a xh e3)]; rfl
      have E5 : Hid (minTo zs (i - 1) = xk) := e5
      have E1 : Hid (low run hp = (xk, xh)) := e1
      have E6 : Hid (run.length + hp.length = i) := e6
      clear e1 e3 e4 e5 e6
      by_cases hcap : cap = 1
      all_goals
        have hcap' : 1 ≤ cap := by omega
        go_wp2
        go_loop [8, 49] (fun m j => ∃ k : Nat, k + 1 ≤ i ∧ j = .int .i64 k ∧ m = .int .u64 (minTo zs k)) (fun _ j => i - (intOf j).toNat)
        case atStart => exact ⟨0, by omega, rfl, by rw [HM.out]⟩
        case round =>
          obtain ⟨k, hk, rfl, rfl⟩ := hrel
          by_cases hki : k + 1 < i
          · first
            | (exfalso; omega)
            | (have ck : wr.cell? ⟨b, off + 1 + k, none⟩ = some (.int .u64 (zs.getD (k + 1) 0)) := by rw [Nat.add_assoc, Nat.add_comm 1 k]; exact cell.out (k + 1) hki
               have E : Hid (minTo zs (k + 1) = if zs.getD (k + 1) 0 < minTo zs k then zs.getD (k + 1) 0 else minTo zs k) := rfl
               generalize zs.getD (k + 1) 0 = z1 at ck E
               generalize minTo zs k = mk at E
               clear ca q0 q1 ch cr
               go_wp2
               all_goals
                 go_round
                 case rel => exact ⟨k + 1, by omega, by go_num, by rw [E.out]; first | rw [if_pos ‹_›] | rw [if_neg (by omega)]⟩
                 case measure => simp [intOf]; omega)
          · obtain rfl : k = i - 1 := by omega
            rw [E5.out]
            clear hki hk
            go_wp2_with fail
            refine (lowest_any rv hv run hp wr HR.out.q.run HR.out.q.hp (by have := E6.out; omega)).mono ?_
            rintro e w1 ⟨rfl, hb⟩
            rw [E1.out]
            have ca1 := cell_later hb ca
            have q01 := cell_later hb q0
            have q11 := cell_later hb q1
            have ch1 := cell_later hb ch
            have cr1 := cell_later hb cr
            have s1 : b < w1.heap.size := World.block_lt_of_cell? w1 _ ca1
            have s2 : w.heap.size < w1.heap.size := World.block_lt_of_cell? w1 _ q01
            have s3 : w.heap.size + 1 < w1.heap.size := World.block_lt_of_cell? w1 _ ch1
            have s4 : xh < w1.heap.size := World.block_lt_of_cell? w1 _ cr1
            have HBB : Hid (Below wr.heap.size wr w1) := hb
            have OW : Hid (Owns wr rv run ∧ Owns wr hv hp) := ⟨HR.out.q.run, HR.out.q.hp⟩
            have HB : Hid (Below w.heap.size w w1) := HR.out.bel.trans (hb.mono (Nat.le_of_lt HR.out.q.lt))
            clear ca q0 q1 ch cr hb
            go_wp2
            have k0 := cell_regrown (cell_alloc_old (o := .cells #[.int .u64 xk, .pointer (some ⟨xh, 0, none⟩)] 39) ca1)
            have k1 := cell_regrown (cell_alloc_old (o := .cells #[.int .u64 xk, .pointer (some ⟨xh, 0, none⟩)] 39) q01)
            have k2 := cell_regrown (cell_alloc_old (o := .cells #[.int .u64 xk, .pointer (some ⟨xh, 0, none⟩)] 39) q11)
            have k3 := cell_regrown (cell_alloc_old (o := .cells #[.int .u64 xk, .pointer (some ⟨xh, 0, none⟩)] 39) ch1)
            have k4 := cell_regrown (w := w1.alloc (.cells #[.int .u64 xk, .pointer (some ⟨xh, 0, none⟩)] 39)) (a := ⟨w1.heap.size, 1, none⟩) (v := .pointer (some ⟨xh, 0, none⟩)) (by simp)
            have kB : Hid (Below w.heap.size w (w1.alloc (.cells #[.int .u64 xk, .pointer (some ⟨xh, 0, none⟩)] 39))) := HB.out.alloc (by omega) _
            have cL : ∀ d os, Calls Yba.prog 7 #[.agg #[rv, hv]] (grow (redrawn (w1.alloc (.cells #[.int .u64 xk, .pointer (some ⟨xh, 0, none⟩)] 39)) d) os) fun e w'' => e = .returned (.int .i64 i) ∧ ∃ p : Regrown, w'' = grow (redrawn (w1.alloc (.cells #[.int .u64 xk, .pointer (some ⟨xh, 0, none⟩)] 39)) p.d) p.os := by
              intro d os
              have hg := below_regrown (w1.alloc (.cells #[.int .u64 xk, .pointer (some ⟨xh, 0, none⟩)] 39)) d os
              have e : ((i : Nat) : Int) = (run.length : Int) + (hp.length : Int) := by have := E6.out; omega
              rw [e]
              exact Calls.regrown_of (qlen_any rv hv run hp _ ((OwnsR.alloc (OW.out.1.below HBB.out) _).below hg) ((OwnsR.alloc (OW.out.2.below HBB.out) _).below hg) (by have := E6.out; omega))
            have HL : Hid (∀ d os, Calls Yba.prog 7 #[.agg #[rv, hv]] (grow (redrawn (w1.alloc (.cells #[.int .u64 xk, .pointer (some ⟨xh, 0, none⟩)] 39)) d) os) fun e w'' => e = .returned (.int .i64 i) ∧ ∃ p : Regrown, w'' = grow (redrawn (w1.alloc (.cells #[.int .u64 xk, .pointer (some ⟨xh, 0, none⟩)] 39)) p.d) p.os) := cL
            clear cL ca1 q01 q11 ch1 cr1 HB
            generalize w1.alloc (.cells #[.int .u64 xk, .pointer (some ⟨xh, 0, none⟩)] 39) = W at k0 k1 k2 k3 k4 kB HL
            have e2' : (a : Int) < (i : Int) := by omega
            have pe : ∀ W' : World, (binOp .eql 28 (.pointer (some ⟨xh, 0, none⟩)) (.pointer (some ⟨xh, 0, none⟩))).run Yba.prog W' = .ok (.bool true) W' := fun W' => ptr_same W' xh
            refine wp_region_quiet_below (by kernel_rfl) (by kernel_rfl) ?_
            repeat (quiet_step (exact HL.out _ _))
            refine wpQuiet_nil ?_
            intro _ hw'
            obtain ⟨⟨dq, osq⟩, hw''⟩ := hw'
            subst hw''
            go_wp2
            go_ret
            exact ⟨rfl, kB.out.trans ((below_regrown W dq osq).mono (by have := kB.out.size; omega))⟩
end Go.Proofs.Ybulkdeew
