/-
  OWN WORK. zzs5280bitoa.
-/
import Derived.Test.YbulkdeicDoorNum
import Derived.Deep.LoopGhost
import Derived.Deep.DeepCutAuto
namespace Go.Proofs.YbulkdeicDoor
open Go.RowKit Go.Lib

set_option maxHeartbeats 6400000 in
set_option maxRecDepth 100000 in
/-- zzs5280bitoa appends the decimal numeral. -/
theorem zitoa (n : Nat) (i : Int) (h0 : -2147483648 ≤ i) (h1 : i ≤ 2147483647) (sv : Value) (xs : List Value) (w : World) (hown : Own w 5 1 sv n xs) (hlim : n + 21 ≤ 140737488355328) :
    Calls Ybad.prog 11 #[sv, .int .i32 i] w fun e w' => ∃ r, e = .returned r ∧ Put w sv n xs (itoa i) r w' := by
  obtain ⟨i0, hi, hz0, hz1, hz2⟩ := info_parts Ybad.info5
  have HO := hid hown
  clear hown
  go_enter Ybad.func11, Ybad.ntmps11
  go_upto_if 11 with fail
  go_cut [0, 5] (fun s0 s5 wc => ∃ (ao : Option Addr) (cap U : Nat) (sg : List UInt8), s0 = .slice ao (n + sg.length) cap ∧ s5 = .int .i64 (U : Int) ∧ U ≤ 2147483648 ∧ sg.length ≤ 1 ∧
    Hid (Own wc 5 1 (.slice ao (n + sg.length) cap) (n + sg.length) (xs ++ byteCells sg) ∧ Ch (fun k => sv.ownBlock = some k) w wc ∧ Fresh w sv (.slice ao (n + sg.length) cap) ∧ itoa i = sg ++ decDigits U))
  case first =>
    by_cases hneg : i < 0
    · obtain ⟨u, hu⟩ : ∃ u : Nat, i = -(u : Int) := ⟨i.natAbs, by omega⟩
      subst hu
      have hu1 : 1 ≤ u := by omega
      go_wp2_with (at_builtin; refine wpList_append_Own _ rfl _ _ 26 rfl 5 i0 (.int .u8 0) 1 1 Ybad.underlying26 hi hz0 hz1 hz2 rfl (by decide) sv n xs rfl (HO.out.alloc _) ⟨w.heap.size, 0, none⟩ 1 1 [.int .u8 45] rfl rfl ?c1 ?c2 ?c3 ?c4 ?_)
      case c1 => exact cell_one_new w _ _
      case c2 => intro x hx; simp at hx; subst hx; rfl
      case c3 => unfold maxLen; omega
      case c4 => omega
      intro ao' cap' w1 o1 k1 f1
      have k1' : Ch (fun k => sv.ownBlock = some k) w w1 := ((Ch.refl (fun k => sv.ownBlock = some k) w).alloc (.cells #[.int .u8 45] 5)).trans k1 (fun _ _ h => h)
      have f1' : Fresh w sv (.slice ao' (n + 1) cap') := Fresh.low (by simp) f1
      clear k1 f1
      have F := hid (And.intro o1 (And.intro k1' f1'))
      clear o1 k1' f1' HO
      go_wp2_with fail
      go_meet
      case rel => exact ⟨ao', cap', u, [45], rfl, by simp, by omega, by simp, F.out.1, F.out.2.1, F.out.2.2, itoa_neg u hu1⟩
    · obtain ⟨u, hu⟩ : ∃ u : Nat, i = (u : Int) := ⟨i.toNat, by omega⟩
      subst hu
      obtain ⟨ao, cap, rfl⟩ := HO.out.slice_of
      go_wp2_with fail
      go_meet
      case rel => exact ⟨ao, cap, u, [], rfl, rfl, by omega, by simp, by simpa [byteCells] using HO.out, Ch.refl _ _, fun k hk => .inl hk, by rw [itoa_nonneg]; rfl⟩
  case rest =>
    obtain ⟨ao, cap, U, sg, rfl, rfl, hU, hsg, HC⟩ := hcut
    have hL : (decDigits U).length ≤ 20 := by rw [decDigits_length]; exact nDigits_le20 U (by omega)
    clear HO
    go_wp2
    go_loopw [5, 7] (fun sv' si wr => ∃ (v q : Nat) (ds : List UInt8), sv' = .int .i64 v ∧ si = .int .i64 ((q : Int) + 1) ∧ v ≤ 2147483648 ∧ q < 20 ∧ Hid (q + 1 + ds.length = 20 ∧ decDigits U = decDigits v ++ ds ∧ Ch (fun _ => False) wc wr ∧ ∃ cur, wr.heap[wc.heap.size]? = some (.cells cur 80 (0, 0)) ∧ cur.size = 20 ∧ ∀ j, j < ds.length → cur[q + 1 + j]? = (byteCells ds)[j]?))
      (fun sv' si _ => (RowKit.intOf si).toNat)
    case atStart => exact ⟨U, 19, [], rfl, rfl, hU, by omega, by simp, by simp, (Ch.refl _ _).alloc _, _, heap_alloc_new _ _, rfl, by simp⟩
    case round =>
      obtain ⟨v, q, ds, rfl, rfl, hv, hq, HR⟩ := hrel
      obtain ⟨cur, hcur, hcs, hcd⟩ := HR.out.2.2.2
      have cc : wr.cell? ⟨wc.heap.size, q, none⟩ = some (cur[q]'(by omega)) := by rw [cell_of_row wr _ _ cur 80 _ hcur, Array.getElem?_eq_getElem]
      have cf : wr.frozen? ⟨wc.heap.size, q, none⟩ = false := frozen_of_row wr _ _ cur 80 hcur
      have NEXT : Hid (Ch (fun _ => False) wc (wr.setCell ⟨wc.heap.size, q, none⟩ (.int .u8 (48 + (v : Int) % 10))) ∧ ∃ cur', (wr.setCell ⟨wc.heap.size, q, none⟩ (.int .u8 (48 + (v : Int) % 10))).heap[wc.heap.size]? = some (.cells cur' 80 (0, 0)) ∧ cur'.size = 20 ∧ ∀ j, j < (UInt8.ofNat (48 + v % 10) :: ds).length → cur'[q + j]? = (byteCells (UInt8.ofNat (48 + v % 10) :: ds))[j]?) := by
        refine ⟨HR.out.2.2.1.setCell _ _ (fun h => by simp at h), _, heap_setCell_same wr _ q cur 80 _ hcur, by simpa using hcs, ?_⟩
        intro j hj
        rw [byteCells_cons, Array.getElem?_setIfInBounds]
        cases j with
        | zero =>
          rw [if_pos (by omega), if_pos (by omega)]
          have : (48 + v % 10) % 256 = 48 + v % 10 := by omega
          simp [this]
        | succ j =>
          have := hcd j (by simpa using hj)
          rw [if_neg (by omega), show q + (j + 1) = q + 1 + j by omega, this]
          simp
      clear hcd hcur
      have HL := hid hL
      clear hL
      by_cases hv10 : v < 10
      · have t1 : ((v : Int) / 10 == 0) = true := by simp; omega
        have hd : decDigits U = UInt8.ofNat (48 + v % 10) :: ds := by rw [HR.out.2.1, decDigits_one hv10, Nat.mod_eq_of_lt hv10]; rfl
        have hdl : (decDigits U).length = 20 - q := by have := HR.out.1; rw [hd]; simp; omega
        have hsl : ∀ W, (Instr.sliceAt 80 (.pointer (some ⟨wc.heap.size, 0, none⟩)) (some (.int .i64 (q : Int))) none none).run Ybad.prog W = .ok (.slice (some ⟨wc.heap.size, q, none⟩) (20 - q) (20 - q)) W := fun W => by
          have hal : Ybad.prog.arrayLen 80 = 20 := by kernel_rfl
          rw [run_sliceAt_array_l W 80 ⟨wc.heap.size, 0, none⟩ (by kernel_rfl) .i64 (q : Int) (by omega) (by rw [hal]; omega)]
          rw [hal]
          have hne : ¬ (20 = q) := by omega
          go_simp
        obtain ⟨hch, cur', hc', hs', hd'⟩ := NEXT.out
        have own2 : Own (wr.setCell ⟨wc.heap.size, q, none⟩ (.int .u8 (48 + (v : Int) % 10))) 5 1 (.slice ao (n + sg.length) cap) (n + sg.length) (xs ++ byteCells sg) := HC.out.1.ch hch (fun _ _ h => h)
        have hcells : ∀ j u', (byteCells (decDigits U))[j]? = some u' → (wr.setCell ⟨wc.heap.size, q, none⟩ (.int .u8 (48 + (v : Int) % 10))).cell? ((⟨wc.heap.size, q, none⟩ : Addr).add j) = some u' := by
          intro j u' hj
          have hjl : j < (decDigits U).length := by
            have h5 := (List.getElem?_eq_some_iff.1 hj).1
            rwa [byteCells_length] at h5
          rw [add_plain, cell_of_row _ _ _ cur' 80 _ hc', hd' j (by rw [← hd]; exact hjl), ← hd, hj]
        have A := hid (And.intro own2 hcells)
        have C := hid hch
        have HD := hid hdl
        clear hch hc' hs' hd' own2 hcells NEXT hd hdl
        go_wp2_with (at_builtin; refine wpList_append_Own _ rfl _ _ 26 rfl 5 i0 (.int .u8 0) 1 1 Ybad.underlying26 hi hz0 hz1 hz2 rfl (by decide) (.slice ao (n + sg.length) cap) (n + sg.length) (xs ++ byteCells sg) rfl A.out.1 ⟨wc.heap.size, q, none⟩ (20 - q) (20 - q) (byteCells (decDigits U)) rfl ?c0 A.out.2 (byteCells_one _) ?c3 ?c4 ?_)
        case c0 => rw [byteCells_length, HD.out, Nat.mul_one]
        case c3 => unfold maxLen; omega
        case c4 => omega
        intro ao' cap' w3 o3 k3 f3
        go_wp2
        go_ret
        have e3 : n + sg.length + (20 - q) = n + (itoa i).length := by rw [HC.out.2.2.2, List.length_append, HD.out]; omega
        refine ⟨_, rfl, ao', cap', by rw [← e3]; rfl, ?_, ?_, ?_⟩
        · rw [← e3, HC.out.2.2.2, byteCells_append]
          simpa using o3
        · exact HC.out.2.1.step HC.out.2.2.1 ((C.out.mono (fun _ _ h => h.elim)).trans k3 (fun _ _ h => h))
        · rw [← e3]
          exact HC.out.2.2.1.trans HC.out.2.1.size (f3.low C.out.size)
      · have t1 : ((v : Int) / 10 == 0) = false := by simp; omega
        have hd : decDigits v = decDigits (v / 10) ++ [UInt8.ofNat (48 + v % 10)] := by rw [decDigits, dif_neg hv10]
        have hq0 : 0 < q := by
          have h1 := HR.out.1
          have h2 := congrArg List.length HR.out.2.1
          have h3 : 1 ≤ (decDigits (v / 10)).length := by rw [decDigits_length]; exact nDigits_pos _
          have h4 := HL.out
          rw [hd] at h2
          simp at h2
          omega
        obtain ⟨p, rfl⟩ : ∃ p, q = p + 1 := ⟨q - 1, by omega⟩
        go_wp2
        go_roundw
        case rel =>
          refine ⟨v / 10, p, UInt8.ofNat (48 + v % 10) :: ds, by simp, by simp, by omega, by omega, ?_, ?_, NEXT.out⟩
          · have := HR.out.1
            simp
            omega
          · rw [HR.out.2.1, hd, List.append_assoc]
            rfl
        case measure => simp [RowKit.intOf]; omega
end Go.Proofs.YbulkdeicDoor
