/-
  OWN WORK. The walk of LawS5276ABuilt.
-/
import Derived.Test.YbulkdefyPlain
namespace Go.Proofs.Ybulkdefy
open Go.RowKit

theorem Yba.info5 : (Yba.prog.info? 5).map (fun i => (i.zero, i.size, i.bytes)) = some (some (.int .u8 0), 1, 1) := by kernel_rfl

/-- The table that the law lays. -/
def tabT (wd : Int) : Int → Int := fun x => if x = 65 then wd else if x = 77 then 4 else if x = 70 then 3 else 0

theorem tab_laid (w : World) (wd : Int) (h0 : 0 ≤ wd) (h1 : wd ≤ 7) : ∃ w1 w2 w3,
    (Instr.mapUpdate 23 (.map (some w.heap.size)) (.int .u8 70) (.int .i64 3)).run Yba.prog (w.alloc (.map #[] 0)) = .ok () w1 ∧
    (Instr.mapUpdate 23 (.map (some w.heap.size)) (.int .u8 77) (.int .i64 4)).run Yba.prog w1 = .ok () w2 ∧
    (Instr.mapUpdate 23 (.map (some w.heap.size)) (.int .u8 65) (.int .i64 wd)).run Yba.prog w2 = .ok () w3 ∧ IsTab w3 w.heap.size 3 (tabT wd) ∧ Below w.heap.size w w3 := by
  obtain ⟨w1, r1, t1, g1⟩ := (IsTab.made w).store (by unfold maxLen; omega) 70 3 (by omega) (by omega) (by decide)
  obtain ⟨w2, r2, t2, g2⟩ := t1.store (by unfold maxLen; omega) 77 4 (by omega) (by omega) (by decide)
  obtain ⟨w3, r3, t3, g3⟩ := t2.store (by unfold maxLen; omega) 65 wd (by omega) (by omega) (WalkArith.wf_i64 (by omega))
  refine ⟨w1, w2, w3, r1, r2, r3, t3, ?_⟩
  have b0 : Below w.heap.size w (w.alloc (.map #[] 0)) := (Below.refl _ _).alloc (Nat.le_refl _) _
  have hr : ∀ k, some w.heap.size = some k → w.heap.size ≤ k := fun k h => by cases h; exact Nat.le_refl _
  have b1 := b0.grown g1 (by simp) hr
  have b2 := b1.grown g2 b1.size hr
  exact b2.grown g3 b2.size hr

structure BInv (w w3 : World) (wd c : Int) (zs : List Int) (k : Nat) (v : Value) (wr : World) : Prop where
  own : wr.ownsRow w3.heap.size 5 1 v (k + 1) ((c :: dg (zs.take k)).map (Value.int .u8))
  tab : IsTab wr w.heap.size 3 (tabT wd)
  bel : Below w.heap.size w wr
  size : w3.heap.size ≤ wr.heap.size
  lt : w.heap.size < w3.heap.size

theorem BInv.start (w w3 : World) (wd c : Int) (zs : List Int) (h : IsTab w3 w.heap.size 3 (tabT wd)) (hb : Below w.heap.size w w3) :
    BInv w w3 wd c zs 0 (.slice (some ⟨w3.heap.size, 0, none⟩) 1 1) (w3.alloc (.cells #[.int .u8 c] 5)) :=
  ⟨World.ownsRow_lit w3 #[.int .u8 c] 1 (Nat.le_refl _) (by unfold maxLen; omega) rfl, h.kept fun hl => Below.heap_alloc _ _ _ hl, hb.alloc hb.size _, by simp, h.lt⟩

/-- Behind an append of one byte. -/
theorem BInv.grow {w w3 : World} {wd c : Int} {zs : List Int} {k : Nat} {v : Value} {wr w1 : World} (h : BInv w w3 wd c zs k v wr) (x : Int)
    (g' : (wr.alloc (.cells #[.int .u8 x] 5)).grownBy w1 v.ownBlock) :
    IsTab w1 w.heap.size 3 (tabT wd) ∧ Below w.heap.size w w1 ∧ w3.heap.size ≤ w1.heap.size := by
  have hlt := h.own.lt
  have h3 := h.lt
  have h4 := h.size
  have bA : Below w.heap.size w (wr.alloc (.cells #[.int .u8 x] 5)) := h.bel.alloc h.bel.size _
  have z1 : wr.heap.size + 1 ≤ w1.heap.size := by have := g'.size; simpa using this
  refine ⟨(h.tab.kept fun hl => Below.heap_alloc _ _ _ hl).kept fun hl => g'.block _ hl (fun e => ?_), bA.grown g' bA.size (fun k hk => ?_), by omega⟩
  · have := (hlt _ e.symm).1; omega
  · have := (hlt k hk).1; omega

theorem dg_snoc (zs : List Int) (k : Nat) (h : k < zs.length) : dg (zs.take (k + 1)) = dg (zs.take k) ++ [48 + zs.getD k 0 % 10] := by
  unfold dg
  rw [List.take_succ_eq_append_getElem h, List.map_append]
  simp [List.getD_eq_getElem?_getD, h]

theorem BInv.bytes {w w3 : World} {wd c : Int} {zs : List Int} {k : Nat} {v : Value} {wr w4 : World} (h : BInv w w3 wd c zs k v wr) {g cg : Nat}
    (o4 : w4.ownsRow w3.heap.size 5 1 (.slice (some ⟨g, 0, none⟩) (k + 1 + 1) cg) (k + 1 + 1) ((c :: dg (zs.take k)).map (Value.int .u8) ++ [.int .u8 47])) :
    (convert 22 9 (.slice (some ⟨g, 0, none⟩) (k + 1 + 1) cg)).run Yba.prog w4 = .ok (.string (strOfNums (c :: dg (zs.take k) ++ [47]))) w4 := by
  have hlen : (c :: dg (zs.take k) ++ [47]).length = k + 1 + 1 := by
    have := h.own.1
    simp at this ⊢
    omega
  refine run_convert_bytes_arg w4 22 5 Yba.underlying22 Yba.underlying5 g 0 (k + 1 + 1) cg (c :: dg (zs.take k) ++ [47]) hlen (fun i hi => ?_) 9 Yba.underlying9
  rw [Nat.zero_add, o4.cellAt i (by omega)]
  have e : (c :: dg (zs.take k)).map (Value.int .u8) ++ [.int .u8 47] = (c :: dg (zs.take k) ++ [47]).map (Value.int .u8) := by simp
  rw [e, List.getElem?_map, List.getD_eq_getElem?_getD, List.getElem?_eq_getElem (by rw [hlen]; exact hi)]
  rfl

set_option maxHeartbeats 4000000 in
theorem built_walk (a0 a1 : Int) (ao : Option Addr) (b off len cap : Nat) (zs : List Int) (tl : ByteArray) (w : World) (hq0 : 0 ≤ a0 ∧ a0 ≤ 255) (hq1 : 0 ≤ a1 ∧ a1 ≤ 255)
    (hl : len ≤ 1024) (htl : tl.size ≤ 1024) (hao : 0 < len → ao = some ⟨b, off, none⟩) (hz : len ≤ zs.length) (hc : ∀ i, i < len → w.cell? ⟨b, off + i, none⟩ = some (.int .u8 (zs.getD i 0))) (hb : ∀ i, i < len → 0 ≤ zs.getD i 0 ∧ zs.getD i 0 ≤ 255) :
    Calls Yba.prog 4 #[.int .u8 a0, .int .u8 a1, .slice ao len cap, .string tl] w fun e w' => e = .returned (.bool true) ∧ Below w.heap.size w w' := by
  obtain ⟨i5, hi5, hz0, hz1, hz2⟩ := info_parts Yba.info5
  have t1 : decide (1024 < (len : Int)) = false := decide_eq_false (by omega)
  have t2 : decide (1024 < (tl.size : Int)) = false := decide_eq_false (by omega)
  obtain ⟨w1, w2, w3, r1, r2, r3, TB, B3⟩ := tab_laid w (a1 % 8) (by omega) (by omega)
  have HT : Hid (IsTab w3 w.heap.size 3 (tabT (a1 % 8)) ∧ Below w.heap.size w w3) := ⟨TB, B3⟩
  have hmm := @run_makeMap Yba.prog
  have HC : Hid (∀ i, i < len → w.cell? ⟨b, off + i, none⟩ = some (.int .u8 (zs.getD i 0))) := hc
  have HB : Hid (∀ i, i < len → 0 ≤ zs.getD i 0 ∧ zs.getD i 0 ≤ 255) := hb
  have HA : Hid (0 < len → ao = some ⟨b, off, none⟩) := hao
  clear TB B3 hc hb hao
  rcases (show a0 % 4 = 0 ∨ a0 % 4 = 1 ∨ a0 % 4 = 2 ∨ a0 % 4 = 3 by omega) with hq | hq | hq | hq
  · have fc : (({ data := #[70, 77, 65, 88] } : ByteArray)[0]'(by decide)).toNat = 70 := rfl
    go_enter Yba.func4, Yba.ntmps4
    go_wp2
    clear hq fc r1 r2 r3 hmm
    go_loopw [12, 39] (fun v i wr => ∃ k : Nat, k ≤ len ∧ i = .int .i64 k ∧ Hid (BInv w w3 (a1 % 8) 70 zs k v wr)) (fun _ i _ => len - (intOf i).toNat)
    case atStart => exact ⟨0, Nat.zero_le _, rfl, BInv.start w w3 (a1 % 8) 70 zs HT.out.1 HT.out.2⟩
    case round =>
      obtain ⟨k, hk, rfl, HR⟩ := hrel
      by_cases hlt : k < len
      · obtain rfl := HA.out (by omega)
        have ck : wr.cell? ⟨b, off + k, none⟩ = some (.int .u8 (zs.getD k 0)) := by
          have := HC.out k hlt
          rw [← this]
          exact HR.out.bel.cell (World.block_lt_of_cell? w _ this)
        have hd := HB.out k hlt
        have DS : Hid (dg (zs.take (k + 1)) = dg (zs.take k) ++ [48 + zs.getD k 0 % 10]) := dg_snoc zs k (by omega)
        generalize zs.getD k 0 = d at ck hd DS
        go_wp2_with (at_builtin; refine wpList_append_own _ rfl _ _ 22 rfl w3.heap.size 5 i5 (.int .u8 0) 1 1 Yba.underlying22 hi5 hz0 hz1 hz2 rfl (by decide) u12 (k + 1) ((70 :: dg (zs.take k)).map (Value.int .u8)) rfl ?owna ⟨wr.heap.size, 0, none⟩ 1 1 [.int .u8 (48 + d % 10)] rfl rfl ?c1a ?c2a ?c3a ?c4a ?c5a ?_)
        case owna => exact HR.out.own.alloc _
        case c2a => rfl
        case c3a => unfold maxLen; omega
        case c4a => omega
        case c5a => have := HR.out.size; omega
        intro v' w4 o4 g4 _
        have NX : Hid (BInv w w3 (a1 % 8) 70 zs (k + 1) v' w4) := by
          have h := HR.out.grow (48 + d % 10) g4
          refine ⟨?_, h.1, h.2.1, h.2.2, HR.out.lt⟩
          rw [DS.out, ← List.cons_append, List.map_append]
          exact o4
        clear o4 g4 ck HR DS
        go_wp2
        go_roundw
        case rel => exact ⟨k + 1, by omega, by go_num, NX.out⟩
        case measure => simp [intOf]; omega
      · obtain rfl : k = len := by omega
        go_wp2_with (at_builtin; refine wpList_append_own _ rfl _ _ 22 rfl w3.heap.size 5 i5 (.int .u8 0) 1 1 Yba.underlying22 hi5 hz0 hz1 hz2 rfl (by decide) u12 (k + 1) ((70 :: dg (zs.take k)).map (Value.int .u8)) rfl ?ownxa ⟨wr.heap.size, 0, none⟩ 1 1 [.int .u8 47] rfl rfl ?d1xa ?d2xa ?d3xa ?d4xa ?d5xa ?_)
        case ownxa => exact HR.out.own.alloc _
        case d1xa => exact cell_one_new wr _ _
        case d2xa => intro u hu; simp at hu; subst hu; rfl
        case d3xa => unfold maxLen; omega
        case d4xa => omega
        case d5xa => have := HR.out.size; simp; omega
        intro v' w4 o4 g4 _
        obtain ⟨g, cg, rfl⟩ : ∃ g c, v' = .slice (some ⟨g, 0, none⟩) (k + 1 + 1) c := by
          rcases o4.2 with ⟨_, h⟩ | ⟨g, cap', cur, hv, _⟩
          · omega
          · exact ⟨g, cap', hv⟩
        have hcv := HR.out.bytes o4
        have HG : Hid (IsTab w4 w.heap.size 3 (tabT (a1 % 8)) ∧ Below w.heap.size w w4 ∧ w3.heap.size ≤ w4.heap.size) := HR.out.grow 47 g4
        have hsz : (strOfNums (70 :: dg (zs.take k) ++ [47])).size = k + 2 := by rw [strOfNums_size]; simp [dg]; omega
        clear o4 g4 HR
        generalize hS : strOfNums (70 :: dg (zs.take k) ++ [47]) = S at hcv hsz
        have HS : Hid (strOfNums (70 :: dg (zs.take k) ++ [47]) = S) := hS
        clear hS
        by_cases hw : 3 ≤ k
        · have hw' : (3 : Int) ≤ (k : Int) := by omega
          go_wp2_with fail
          refine (code_built 70 (by omega) (by omega) zs k hz hl tl htl S HS.out w.heap.size 3 (tabT (a1 % 8)) 3 (by omega) rfl w4 HG.out.1).mono ?_
          rintro e w5 ⟨rfl, hb5⟩
          rw [if_pos ⟨by omega, hw⟩]
          have BF : Hid (Below w.heap.size w w5) := HG.out.2.1.trans (hb5.mono HG.out.2.1.size)
          clear hb5
          go_wp2
          go_ret
          exact ⟨rfl, BF.out⟩
        · have hw' : ¬ (3 : Int) ≤ (k : Int) := by omega
          go_wp2_with fail
          refine (code_built 70 (by omega) (by omega) zs k hz hl tl htl S HS.out w.heap.size 3 (tabT (a1 % 8)) 3 (by omega) rfl w4 HG.out.1).mono ?_
          rintro e w5 ⟨rfl, hb5⟩
          rw [if_neg (fun h => hw h.2)]
          have BF : Hid (Below w.heap.size w w5) := HG.out.2.1.trans (hb5.mono HG.out.2.1.size)
          clear hb5
          go_wp2
          go_ret
          exact ⟨rfl, BF.out⟩
  · have fc : (({ data := #[70, 77, 65, 88] } : ByteArray)[1]'(by decide)).toNat = 77 := rfl
    go_enter Yba.func4, Yba.ntmps4
    go_wp2
    clear hq fc r1 r2 r3 hmm
    go_loopw [12, 39] (fun v i wr => ∃ k : Nat, k ≤ len ∧ i = .int .i64 k ∧ Hid (BInv w w3 (a1 % 8) 77 zs k v wr)) (fun _ i _ => len - (intOf i).toNat)
    case atStart => exact ⟨0, Nat.zero_le _, rfl, BInv.start w w3 (a1 % 8) 77 zs HT.out.1 HT.out.2⟩
    case round =>
      obtain ⟨k, hk, rfl, HR⟩ := hrel
      by_cases hlt : k < len
      · obtain rfl := HA.out (by omega)
        have ck : wr.cell? ⟨b, off + k, none⟩ = some (.int .u8 (zs.getD k 0)) := by
          have := HC.out k hlt
          rw [← this]
          exact HR.out.bel.cell (World.block_lt_of_cell? w _ this)
        have hd := HB.out k hlt
        have DS : Hid (dg (zs.take (k + 1)) = dg (zs.take k) ++ [48 + zs.getD k 0 % 10]) := dg_snoc zs k (by omega)
        generalize zs.getD k 0 = d at ck hd DS
        go_wp2_with (at_builtin; refine wpList_append_own _ rfl _ _ 22 rfl w3.heap.size 5 i5 (.int .u8 0) 1 1 Yba.underlying22 hi5 hz0 hz1 hz2 rfl (by decide) u12 (k + 1) ((77 :: dg (zs.take k)).map (Value.int .u8)) rfl ?ownb ⟨wr.heap.size, 0, none⟩ 1 1 [.int .u8 (48 + d % 10)] rfl rfl ?c1b ?c2b ?c3b ?c4b ?c5b ?_)
        case ownb => exact HR.out.own.alloc _
        case c2b => rfl
        case c3b => unfold maxLen; omega
        case c4b => omega
        case c5b => have := HR.out.size; omega
        intro v' w4 o4 g4 _
        have NX : Hid (BInv w w3 (a1 % 8) 77 zs (k + 1) v' w4) := by
          have h := HR.out.grow (48 + d % 10) g4
          refine ⟨?_, h.1, h.2.1, h.2.2, HR.out.lt⟩
          rw [DS.out, ← List.cons_append, List.map_append]
          exact o4
        clear o4 g4 ck HR DS
        go_wp2
        go_roundw
        case rel => exact ⟨k + 1, by omega, by go_num, NX.out⟩
        case measure => simp [intOf]; omega
      · obtain rfl : k = len := by omega
        go_wp2_with (at_builtin; refine wpList_append_own _ rfl _ _ 22 rfl w3.heap.size 5 i5 (.int .u8 0) 1 1 Yba.underlying22 hi5 hz0 hz1 hz2 rfl (by decide) u12 (k + 1) ((77 :: dg (zs.take k)).map (Value.int .u8)) rfl ?ownxb ⟨wr.heap.size, 0, none⟩ 1 1 [.int .u8 47] rfl rfl ?d1xb ?d2xb ?d3xb ?d4xb ?d5xb ?_)
        case ownxb => exact HR.out.own.alloc _
        case d1xb => exact cell_one_new wr _ _
        case d2xb => intro u hu; simp at hu; subst hu; rfl
        case d3xb => unfold maxLen; omega
        case d4xb => omega
        case d5xb => have := HR.out.size; simp; omega
        intro v' w4 o4 g4 _
        obtain ⟨g, cg, rfl⟩ : ∃ g c, v' = .slice (some ⟨g, 0, none⟩) (k + 1 + 1) c := by
          rcases o4.2 with ⟨_, h⟩ | ⟨g, cap', cur, hv, _⟩
          · omega
          · exact ⟨g, cap', hv⟩
        have hcv := HR.out.bytes o4
        have HG : Hid (IsTab w4 w.heap.size 3 (tabT (a1 % 8)) ∧ Below w.heap.size w w4 ∧ w3.heap.size ≤ w4.heap.size) := HR.out.grow 47 g4
        have hsz : (strOfNums (77 :: dg (zs.take k) ++ [47])).size = k + 2 := by rw [strOfNums_size]; simp [dg]; omega
        clear o4 g4 HR
        generalize hS : strOfNums (77 :: dg (zs.take k) ++ [47]) = S at hcv hsz
        have HS : Hid (strOfNums (77 :: dg (zs.take k) ++ [47]) = S) := hS
        clear hS
        by_cases hw : 4 ≤ k
        · have hw' : (4 : Int) ≤ (k : Int) := by omega
          go_wp2_with fail
          refine (code_built 77 (by omega) (by omega) zs k hz hl tl htl S HS.out w.heap.size 3 (tabT (a1 % 8)) 4 (by omega) rfl w4 HG.out.1).mono ?_
          rintro e w5 ⟨rfl, hb5⟩
          rw [if_pos ⟨by omega, hw⟩]
          have BF : Hid (Below w.heap.size w w5) := HG.out.2.1.trans (hb5.mono HG.out.2.1.size)
          clear hb5
          go_wp2
          go_ret
          exact ⟨rfl, BF.out⟩
        · have hw' : ¬ (4 : Int) ≤ (k : Int) := by omega
          go_wp2_with fail
          refine (code_built 77 (by omega) (by omega) zs k hz hl tl htl S HS.out w.heap.size 3 (tabT (a1 % 8)) 4 (by omega) rfl w4 HG.out.1).mono ?_
          rintro e w5 ⟨rfl, hb5⟩
          rw [if_neg (fun h => hw h.2)]
          have BF : Hid (Below w.heap.size w w5) := HG.out.2.1.trans (hb5.mono HG.out.2.1.size)
          clear hb5
          go_wp2
          go_ret
          exact ⟨rfl, BF.out⟩
  · have fc : (({ data := #[70, 77, 65, 88] } : ByteArray)[2]'(by decide)).toNat = 65 := rfl
    go_enter Yba.func4, Yba.ntmps4
    go_wp2
    clear hq fc r1 r2 r3 hmm
    go_loopw [12, 39] (fun v i wr => ∃ k : Nat, k ≤ len ∧ i = .int .i64 k ∧ Hid (BInv w w3 (a1 % 8) 65 zs k v wr)) (fun _ i _ => len - (intOf i).toNat)
    case atStart => exact ⟨0, Nat.zero_le _, rfl, BInv.start w w3 (a1 % 8) 65 zs HT.out.1 HT.out.2⟩
    case round =>
      obtain ⟨k, hk, rfl, HR⟩ := hrel
      by_cases hlt : k < len
      · obtain rfl := HA.out (by omega)
        have ck : wr.cell? ⟨b, off + k, none⟩ = some (.int .u8 (zs.getD k 0)) := by
          have := HC.out k hlt
          rw [← this]
          exact HR.out.bel.cell (World.block_lt_of_cell? w _ this)
        have hd := HB.out k hlt
        have DS : Hid (dg (zs.take (k + 1)) = dg (zs.take k) ++ [48 + zs.getD k 0 % 10]) := dg_snoc zs k (by omega)
        generalize zs.getD k 0 = d at ck hd DS
        go_wp2_with (at_builtin; refine wpList_append_own _ rfl _ _ 22 rfl w3.heap.size 5 i5 (.int .u8 0) 1 1 Yba.underlying22 hi5 hz0 hz1 hz2 rfl (by decide) u12 (k + 1) ((65 :: dg (zs.take k)).map (Value.int .u8)) rfl ?ownc ⟨wr.heap.size, 0, none⟩ 1 1 [.int .u8 (48 + d % 10)] rfl rfl ?c1c ?c2c ?c3c ?c4c ?c5c ?_)
        case ownc => exact HR.out.own.alloc _
        case c2c => rfl
        case c3c => unfold maxLen; omega
        case c4c => omega
        case c5c => have := HR.out.size; omega
        intro v' w4 o4 g4 _
        have NX : Hid (BInv w w3 (a1 % 8) 65 zs (k + 1) v' w4) := by
          have h := HR.out.grow (48 + d % 10) g4
          refine ⟨?_, h.1, h.2.1, h.2.2, HR.out.lt⟩
          rw [DS.out, ← List.cons_append, List.map_append]
          exact o4
        clear o4 g4 ck HR DS
        go_wp2
        go_roundw
        case rel => exact ⟨k + 1, by omega, by go_num, NX.out⟩
        case measure => simp [intOf]; omega
      · obtain rfl : k = len := by omega
        go_wp2_with (at_builtin; refine wpList_append_own _ rfl _ _ 22 rfl w3.heap.size 5 i5 (.int .u8 0) 1 1 Yba.underlying22 hi5 hz0 hz1 hz2 rfl (by decide) u12 (k + 1) ((65 :: dg (zs.take k)).map (Value.int .u8)) rfl ?ownxc ⟨wr.heap.size, 0, none⟩ 1 1 [.int .u8 47] rfl rfl ?d1xc ?d2xc ?d3xc ?d4xc ?d5xc ?_)
        case ownxc => exact HR.out.own.alloc _
        case d1xc => exact cell_one_new wr _ _
        case d2xc => intro u hu; simp at hu; subst hu; rfl
        case d3xc => unfold maxLen; omega
        case d4xc => omega
        case d5xc => have := HR.out.size; simp; omega
        intro v' w4 o4 g4 _
        obtain ⟨g, cg, rfl⟩ : ∃ g c, v' = .slice (some ⟨g, 0, none⟩) (k + 1 + 1) c := by
          rcases o4.2 with ⟨_, h⟩ | ⟨g, cap', cur, hv, _⟩
          · omega
          · exact ⟨g, cap', hv⟩
        have hcv := HR.out.bytes o4
        have HG : Hid (IsTab w4 w.heap.size 3 (tabT (a1 % 8)) ∧ Below w.heap.size w w4 ∧ w3.heap.size ≤ w4.heap.size) := HR.out.grow 47 g4
        have hsz : (strOfNums (65 :: dg (zs.take k) ++ [47])).size = k + 2 := by rw [strOfNums_size]; simp [dg]; omega
        clear o4 g4 HR
        generalize hS : strOfNums (65 :: dg (zs.take k) ++ [47]) = S at hcv hsz
        have HS : Hid (strOfNums (65 :: dg (zs.take k) ++ [47]) = S) := hS
        clear hS
        obtain ⟨n, hn⟩ : ∃ n : Nat, a1 % 8 = (n : Int) := ⟨(a1 % 8).toNat, by omega⟩
        have hn7 : n ≤ 7 := by omega
        have HT0 : Hid (tabT (a1 % 8) 65 = (n : Int)) := by show _ = _; unfold tabT; rw [if_pos rfl, hn]
        rw [hn] at HG HT0
        by_cases hw0 : 1 ≤ n
        · by_cases hw : n ≤ k
          · have hw' : (n : Int) ≤ (k : Int) := by omega
            have hw1 : (1 : Int) ≤ (n : Int) := by omega
            go_wp2_with fail
            refine (code_built 65 (by omega) (by omega) zs k hz hl tl htl S HS.out w.heap.size 3 (tabT n) n hn7 HT0.out w4 HG.out.1).mono ?_
            rintro e w5 ⟨rfl, hb5⟩
            rw [if_pos ⟨hw0, hw⟩]
            have BF : Hid (Below w.heap.size w w5) := HG.out.2.1.trans (hb5.mono HG.out.2.1.size)
            clear hb5
            go_wp2
            go_ret
            exact ⟨rfl, BF.out⟩
          · have hw' : ¬ (n : Int) ≤ (k : Int) := by omega
            have hw1 : (1 : Int) ≤ (n : Int) := by omega
            go_wp2_with fail
            refine (code_built 65 (by omega) (by omega) zs k hz hl tl htl S HS.out w.heap.size 3 (tabT n) n hn7 HT0.out w4 HG.out.1).mono ?_
            rintro e w5 ⟨rfl, hb5⟩
            rw [if_neg (fun h => hw h.2)]
            have BF : Hid (Below w.heap.size w w5) := HG.out.2.1.trans (hb5.mono HG.out.2.1.size)
            clear hb5
            go_wp2
            go_ret
            exact ⟨rfl, BF.out⟩
        · have hw1 : ¬ (1 : Int) ≤ (n : Int) := by omega
          have hw2 : decide ((1 : Int) ≤ (n : Int)) = false := decide_eq_false hw1
          go_wp2_with fail
          refine (code_built 65 (by omega) (by omega) zs k hz hl tl htl S HS.out w.heap.size 3 (tabT n) n hn7 HT0.out w4 HG.out.1).mono ?_
          rintro e w5 ⟨rfl, hb5⟩
          rw [if_neg (fun h => hw0 h.1)]
          have BF : Hid (Below w.heap.size w w5) := HG.out.2.1.trans (hb5.mono HG.out.2.1.size)
          clear hb5
          go_wp2
          go_ret
          exact ⟨rfl, BF.out⟩
  · have fc : (({ data := #[70, 77, 65, 88] } : ByteArray)[3]'(by decide)).toNat = 88 := rfl
    go_enter Yba.func4, Yba.ntmps4
    go_wp2
    clear hq fc r1 r2 r3 hmm
    go_loopw [12, 39] (fun v i wr => ∃ k : Nat, k ≤ len ∧ i = .int .i64 k ∧ Hid (BInv w w3 (a1 % 8) 88 zs k v wr)) (fun _ i _ => len - (intOf i).toNat)
    case atStart => exact ⟨0, Nat.zero_le _, rfl, BInv.start w w3 (a1 % 8) 88 zs HT.out.1 HT.out.2⟩
    case round =>
      obtain ⟨k, hk, rfl, HR⟩ := hrel
      by_cases hlt : k < len
      · obtain rfl := HA.out (by omega)
        have ck : wr.cell? ⟨b, off + k, none⟩ = some (.int .u8 (zs.getD k 0)) := by
          have := HC.out k hlt
          rw [← this]
          exact HR.out.bel.cell (World.block_lt_of_cell? w _ this)
        have hd := HB.out k hlt
        have DS : Hid (dg (zs.take (k + 1)) = dg (zs.take k) ++ [48 + zs.getD k 0 % 10]) := dg_snoc zs k (by omega)
        generalize zs.getD k 0 = d at ck hd DS
        go_wp2_with (at_builtin; refine wpList_append_own _ rfl _ _ 22 rfl w3.heap.size 5 i5 (.int .u8 0) 1 1 Yba.underlying22 hi5 hz0 hz1 hz2 rfl (by decide) u12 (k + 1) ((88 :: dg (zs.take k)).map (Value.int .u8)) rfl ?ownd ⟨wr.heap.size, 0, none⟩ 1 1 [.int .u8 (48 + d % 10)] rfl rfl ?c1d ?c2d ?c3d ?c4d ?c5d ?_)
        case ownd => exact HR.out.own.alloc _
        case c2d => rfl
        case c3d => unfold maxLen; omega
        case c4d => omega
        case c5d => have := HR.out.size; omega
        intro v' w4 o4 g4 _
        have NX : Hid (BInv w w3 (a1 % 8) 88 zs (k + 1) v' w4) := by
          have h := HR.out.grow (48 + d % 10) g4
          refine ⟨?_, h.1, h.2.1, h.2.2, HR.out.lt⟩
          rw [DS.out, ← List.cons_append, List.map_append]
          exact o4
        clear o4 g4 ck HR DS
        go_wp2
        go_roundw
        case rel => exact ⟨k + 1, by omega, by go_num, NX.out⟩
        case measure => simp [intOf]; omega
      · obtain rfl : k = len := by omega
        go_wp2_with (at_builtin; refine wpList_append_own _ rfl _ _ 22 rfl w3.heap.size 5 i5 (.int .u8 0) 1 1 Yba.underlying22 hi5 hz0 hz1 hz2 rfl (by decide) u12 (k + 1) ((88 :: dg (zs.take k)).map (Value.int .u8)) rfl ?ownxd ⟨wr.heap.size, 0, none⟩ 1 1 [.int .u8 47] rfl rfl ?d1xd ?d2xd ?d3xd ?d4xd ?d5xd ?_)
        case ownxd => exact HR.out.own.alloc _
        case d1xd => exact cell_one_new wr _ _
        case d2xd => intro u hu; simp at hu; subst hu; rfl
        case d3xd => unfold maxLen; omega
        case d4xd => omega
        case d5xd => have := HR.out.size; simp; omega
        intro v' w4 o4 g4 _
        obtain ⟨g, cg, rfl⟩ : ∃ g c, v' = .slice (some ⟨g, 0, none⟩) (k + 1 + 1) c := by
          rcases o4.2 with ⟨_, h⟩ | ⟨g, cap', cur, hv, _⟩
          · omega
          · exact ⟨g, cap', hv⟩
        have hcv := HR.out.bytes o4
        have HG : Hid (IsTab w4 w.heap.size 3 (tabT (a1 % 8)) ∧ Below w.heap.size w w4 ∧ w3.heap.size ≤ w4.heap.size) := HR.out.grow 47 g4
        have hsz : (strOfNums (88 :: dg (zs.take k) ++ [47])).size = k + 2 := by rw [strOfNums_size]; simp [dg]; omega
        clear o4 g4 HR
        generalize hS : strOfNums (88 :: dg (zs.take k) ++ [47]) = S at hcv hsz
        have HS : Hid (strOfNums (88 :: dg (zs.take k) ++ [47]) = S) := hS
        clear hS
        go_wp2_with fail
        refine (code_built 88 (by omega) (by omega) zs k hz hl tl htl S HS.out w.heap.size 3 (tabT (a1 % 8)) 0 (by omega) rfl w4 HG.out.1).mono ?_
        rintro e w5 ⟨rfl, hb5⟩
        rw [if_neg (fun h => by omega)]
        have BF : Hid (Below w.heap.size w w5) := HG.out.2.1.trans (hb5.mono HG.out.2.1.size)
        clear hb5
        go_wp2
        go_ret
        exact ⟨rfl, BF.out⟩
end Go.Proofs.Ybulkdefy
