/-
  OWN WORK. The walk of LawS5276AModel.
-/
import Derived.Test.YbulkdefyModel
import Derived.RegionTactic
import Derived.BigRegion
namespace Go.Proofs.Ybulkdefy
open Go.RowKit

structure MInv (w : World) (ks vs : List Int) (k : Nat) (wr : World) : Prop where
  tab : IsTab wr w.heap.size k (fun x => lastTo ks vs x k)
  bel : Below w.heap.size w wr

theorem MInv.step {w : World} {ks vs : List Int} {k : Nat} {wr : World} (h : MInv w ks vs k wr) (hk : k < 2000) (b0 : 0 ≤ ks.getD k 0) (b1 : ks.getD k 0 ≤ 255) :
    ∃ w', (Instr.mapUpdate 23 (.map (some w.heap.size)) (.int .u8 (ks.getD k 0)) (.int .i64 (vs.getD k 0 % 6))).run Yba.prog wr.drew = .ok () w' ∧ MInv w ks vs (k + 1) w' := by
  have t0 : IsTab wr.drew w.heap.size k (fun x => lastTo ks vs x k) := h.tab.kept fun _ => rfl
  obtain ⟨w', r, t, g⟩ := t0.store (by unfold maxLen; omega) (ks.getD k 0) (vs.getD k 0 % 6) b0 b1 (WalkArith.wf_i64 (by omega))
  refine ⟨w', r, ?_, ?_⟩
  · have e : (fun x => lastTo ks vs x (k + 1)) = fun x => if x = ks.getD k 0 then vs.getD k 0 % 6 else lastTo ks vs x k := by
      funext x
      show (if ks.getD k 0 = x then vs.getD k 0 % 6 else lastTo ks vs x k) = _
      by_cases he : x = ks.getD k 0
      · rw [if_pos he, if_pos he.symm]
      · rw [if_neg he, if_neg (fun h => he h.symm)]
    rw [e]
    exact t
  · have bd : Below w.heap.size w wr.drew := h.bel.drew
    exact bd.grown g bd.size (fun j hj => by cases hj; exact Nat.le_refl _)

set_option maxHeartbeats 1000000 in
theorem model_walk (s : ByteArray) (hs : s.size ≤ maxLen) (ka va : Option Addr) (kb ko kl kc vb vo vl vc : Nat) (ks vs : List Int) (m : Nat) (w : World)
    (hm : m = min kl vl) (hkl : kl ≤ 1024) (hvl : vl ≤ 1024) (hka : 0 < m → ka = some ⟨kb, ko, none⟩) (hva : 0 < m → va = some ⟨vb, vo, none⟩)
    (hk : ∀ i, i < m → w.cell? ⟨kb, ko + i, none⟩ = some (.int .u8 (ks.getD i 0))) (hv : ∀ i, i < m → w.cell? ⟨vb, vo + i, none⟩ = some (.int .u8 (vs.getD i 0)))
    (hkb : ∀ i, i < m → 0 ≤ ks.getD i 0 ∧ ks.getD i 0 ≤ 255) (hb : ∀ i, i < m → 0 ≤ vs.getD i 0 ∧ vs.getD i 0 ≤ 255) :
    Calls Yba.prog 3 #[.string s, .slice ka kl kc, .slice va vl vc] w fun e w' => e = .returned (.bool true) ∧ Below w.heap.size w w' := by
  have t1 : decide ((1024 : Int) < (kl : Int)) = false := decide_eq_false (by omega)
  have t2 : decide ((1024 : Int) < (vl : Int)) = false := decide_eq_false (by omega)
  have hmm := @run_makeMap Yba.prog
  have H : Hid ((0 < m → ka = some ⟨kb, ko, none⟩) ∧ (0 < m → va = some ⟨vb, vo, none⟩) ∧ (∀ i, i < m → w.cell? ⟨kb, ko + i, none⟩ = some (.int .u8 (ks.getD i 0))) ∧ (∀ i, i < m → w.cell? ⟨vb, vo + i, none⟩ = some (.int .u8 (vs.getD i 0))) ∧ (∀ i, i < m → 0 ≤ vs.getD i 0 ∧ vs.getD i 0 ≤ 255) ∧ (∀ i, i < m → 0 ≤ ks.getD i 0 ∧ ks.getD i 0 ≤ 255)) := ⟨hka, hva, hk, hv, hb, hkb⟩
  have HM : Hid (m = min kl vl) := hm
  have hm1 : m ≤ kl := by omega
  have hm2 : m ≤ vl := by omega
  clear hka hva hk hv hb hkb hm
  go_enter Yba.func3, Yba.ntmps3
  go_wp2
  clear hmm
  go_loopw [8] (fun sj wr => ∃ k : Nat, k ≤ m ∧ sj = .int .i64 k ∧ Hid (MInv w ks vs k wr)) (fun sj _ => m - (intOf sj).toNat)
  case atStart => exact ⟨0, Nat.zero_le _, rfl, IsTab.made w, (Below.refl _ _).alloc (Nat.le_refl _) _⟩
  case round =>
    obtain ⟨k, hk, rfl, HR⟩ := hrel
    by_cases hlt : k < m
    · obtain rfl := H.out.1 (by omega)
      obtain rfl := H.out.2.1 (by omega)
      have d1 := H.out.2.2.1 k hlt
      have d2 := H.out.2.2.2.1 k hlt
      have hvb := H.out.2.2.2.2.1 k hlt
      have hkb := H.out.2.2.2.2.2 k hlt
      have c1 : wr.cell? ⟨kb, ko + k, none⟩ = some (.int .u8 (ks.getD k 0)) := (HR.out.bel.cell (World.block_lt_of_cell? w _ d1)).trans d1
      have c2 : wr.cell? ⟨vb, vo + k, none⟩ = some (.int .u8 (vs.getD k 0)) := (HR.out.bel.cell (World.block_lt_of_cell? w _ d2)).trans d2
      obtain ⟨w', hru, hnx⟩ := HR.out.step (by omega) hkb.1 hkb.2
      have NX : Hid (MInv w ks vs (k + 1) w') := hnx
      have l1 : (k : Int) < (kl : Int) := by omega
      have l2 : (k : Int) < (vl : Int) := by omega
      clear d1 d2 hnx HR
      generalize ks.getD k 0 = kk at c1 hkb hru
      generalize vs.getD k 0 = vv at c2 hvb hru
      go_wp2
      go_region
      go_wp2
      go_roundw
      case rel => exact ⟨k + 1, by omega, by go_num, NX.out⟩
      case measure => simp [intOf]; omega
    · obtain rfl : k = m := by omega
      have hmm : Hid (k = min kl vl) := HM.out
      by_cases hkk : k < kl
      · have l2 : decide (k < vl) = false := decide_eq_false (by have := hmm.out; omega)
        have l2' : vl ≤ k := by have := hmm.out; omega
        have l1 : (k : Int) < (kl : Int) := by omega
        by_cases h0 : s.size = 0
        · go_wp2_with fail
          refine (code_empty s h0 _ wr).mono ?_
          rintro e w5 ⟨rfl, hb5⟩
          have B5 : Hid (Below w.heap.size w w5) := HR.out.bel.trans (hb5.mono HR.out.bel.size)
          clear hb5
          go_wp2_with fail
          refine (model_empty s h0 _ _ w5).mono ?_
          rintro e w6 ⟨rfl, hb6⟩
          have B6 : Hid (Below w.heap.size w w6) := B5.out.trans (hb6.mono B5.out.size)
          clear hb6
          go_wp2
          go_ret
          exact ⟨rfl, B6.out⟩
        · have h0' : 0 < s.size := by omega
          have hbd := lastTo_bd ks vs ((s[0]'h0').toNat : Int) k
          obtain ⟨n, hn⟩ : ∃ n : Nat, lastTo ks vs ((s[0]'h0').toNat : Int) k = (n : Int) := ⟨(lastTo ks vs ((s[0]'h0').toNat : Int) k).toNat, by omega⟩
          have hlk := HR.out.tab.look ((s[0]'h0').toNat : Int) (by omega) (by have := (s[0]'h0').toNat_lt; omega)
          simp only [hn] at hlk
          have HN : Hid (lastTo ks vs ((s[0]'h0').toNat : Int) k = (n : Int) ∧ n ≤ 5) := ⟨hn, by omega⟩
          have HL : Hid ((Instr.lookup 23 (.map (some w.heap.size)) (.int .u8 ((s[0]'h0').toNat : Int)) false).run Yba.prog wr = .ok (.int .i64 (n : Int)) wr) := hlk
          clear hbd hn hlk
          go_wp2_with fail
          refine (code_any s h0' hs _ n (by have := HN.out.2; omega) wr HL.out).mono ?_
          rintro e w5 ⟨rfl, hb5⟩
          have B5 : Hid (Below w.heap.size w w5) := HR.out.bel.trans (hb5.mono HR.out.bel.size)
          clear hb5
          go_wp2_with fail
          refine (model_any s h0' hs ka va kb ko kl kc vb vo vl vc ks vs k w5 HM.out hkl hvl H.out.1 H.out.2.1 (fun i hi => cell_later B5.out (H.out.2.2.1 i hi)) (fun i hi => cell_later B5.out (H.out.2.2.2.1 i hi)) H.out.2.2.2.2.1 n HN.out.1).mono ?_
          rintro e w6 ⟨rfl, hb6⟩
          rw [modelLen_eq]
          have B6 : Hid (Below w.heap.size w w6) := B5.out.trans (hb6.mono B5.out.size)
          clear hb6
          generalize codeLen s n = r
          go_wp2
          go_ret
          exact ⟨rfl, B6.out⟩
      · have l1 : decide (k < kl) = false := decide_eq_false (by omega)
        by_cases h0 : s.size = 0
        · go_wp2_with fail
          refine (code_empty s h0 _ wr).mono ?_
          rintro e w5 ⟨rfl, hb5⟩
          have B5 : Hid (Below w.heap.size w w5) := HR.out.bel.trans (hb5.mono HR.out.bel.size)
          clear hb5
          go_wp2_with fail
          refine (model_empty s h0 _ _ w5).mono ?_
          rintro e w6 ⟨rfl, hb6⟩
          have B6 : Hid (Below w.heap.size w w6) := B5.out.trans (hb6.mono B5.out.size)
          clear hb6
          go_wp2
          go_ret
          exact ⟨rfl, B6.out⟩
        · have h0' : 0 < s.size := by omega
          have hbd := lastTo_bd ks vs ((s[0]'h0').toNat : Int) k
          obtain ⟨n, hn⟩ : ∃ n : Nat, lastTo ks vs ((s[0]'h0').toNat : Int) k = (n : Int) := ⟨(lastTo ks vs ((s[0]'h0').toNat : Int) k).toNat, by omega⟩
          have hlk := HR.out.tab.look ((s[0]'h0').toNat : Int) (by omega) (by have := (s[0]'h0').toNat_lt; omega)
          simp only [hn] at hlk
          have HN : Hid (lastTo ks vs ((s[0]'h0').toNat : Int) k = (n : Int) ∧ n ≤ 5) := ⟨hn, by omega⟩
          have HL : Hid ((Instr.lookup 23 (.map (some w.heap.size)) (.int .u8 ((s[0]'h0').toNat : Int)) false).run Yba.prog wr = .ok (.int .i64 (n : Int)) wr) := hlk
          clear hbd hn hlk
          go_wp2_with fail
          refine (code_any s h0' hs _ n (by have := HN.out.2; omega) wr HL.out).mono ?_
          rintro e w5 ⟨rfl, hb5⟩
          have B5 : Hid (Below w.heap.size w w5) := HR.out.bel.trans (hb5.mono HR.out.bel.size)
          clear hb5
          go_wp2_with fail
          refine (model_any s h0' hs ka va kb ko kl kc vb vo vl vc ks vs k w5 HM.out hkl hvl H.out.1 H.out.2.1 (fun i hi => cell_later B5.out (H.out.2.2.1 i hi)) (fun i hi => cell_later B5.out (H.out.2.2.2.1 i hi)) H.out.2.2.2.2.1 n HN.out.1).mono ?_
          rintro e w6 ⟨rfl, hb6⟩
          rw [modelLen_eq]
          have B6 : Hid (Below w.heap.size w w6) := B5.out.trans (hb6.mono B5.out.size)
          clear hb6
          generalize codeLen s n = r
          go_wp2
          go_ret
          exact ⟨rfl, B6.out⟩
end Go.Proofs.Ybulkdefy
