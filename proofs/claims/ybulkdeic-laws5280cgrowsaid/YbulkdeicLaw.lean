/-
  OWN WORK. LawS5280CGrow's walk.
-/
import Derived.Test.YbulkdeicGrow
import Derived.Test.YbulkdeicZero
import Derived.Deep.DeepCutAuto
import Derived.LaidEqlPtr
import Derived.Laws.StructEq
import Derived.Lib.Builder
namespace Go.Proofs.Ybulkdeic
open Go.RowKit

theorem part_at (a b : Int) (W : World) : (part 21 #[.int .i32 a, .int .i32 b] 0).run Yba.prog W = .ok (.int .i32 a) W ∧ (part 21 #[.int .i32 a, .int .i32 b] 1).run Yba.prog W = .ok (.int .i32 b) W := ⟨by kernel_rfl, by kernel_rfl⟩
theorem eq37 (d : Nat) (a b : Int) (W : World) : (Op.equalIn (d + 1 + 1) 37 (.agg #[.int .i32 a, .int .i32 b]) (.agg #[.int .i32 a, .int .i32 b])).run Yba.prog W = .ok true W := by
  have e1 := run_equalIn_int W (P := Yba.prog) d 21 .i32 .i32 a a Yba.underlying21
  have e2 := run_equalIn_int W (P := Yba.prog) d 21 .i32 .i32 b b Yba.underlying21
  have p1 := (part_at a b W).1
  have p2 := (part_at a b W).2
  rw [Op.equalIn]
  simp only [Sem.run_bind, run_underlying Yba.underlying37, Result.andThen_ok, Yba.sizeOf21]
  simp [Std.Legacy.Range.forIn_eq_forIn_range', List.range', p1, p2, e1, e2]
theorem neq37 (a b : Int) (W : World) : (binOp .neq 37 (.agg #[.int .i32 a, .int .i32 b]) (.agg #[.int .i32 a, .int .i32 b])).run Yba.prog W = .ok (.bool false) W := by
  rw [run_neq_struct]
  have := eq37 9998 a b W
  rw [this]
  rfl

theorem law_long (ao : Option Addr) (len cap : Nat) (h : 1024 < len) (ev nv ov mv : Value) (w : World) :
    Calls Yba.prog 3 #[.slice ao len cap, ev, nv, ov, mv] w fun e w' => e = .returned (.bool true) ∧ Below w.heap.size w w' := by
  have h' : (1024 : Int) < (len : Int) := by omega
  go_enter Yba.func3, Yba.ntmps3
  go_wp2
  go_ret
  exact ⟨rfl, Below.refl _ _⟩

set_option maxRecDepth 100000 in
theorem law_out (ao : Option Addr) (len cap : Nat) (h : len ≤ 1024) (ev : Value) (n others M : Int) (hout : ¬ (-1024 ≤ n ∧ n ≤ 1024 ∧ -4096 ≤ others ∧ others ≤ 4096 ∧ -65536 ≤ M ∧ M ≤ 65536)) (w : World) :
    Calls Yba.prog 3 #[.slice ao len cap, ev, .int .i64 n, .int .i64 others, .int .i64 M] w fun e w' => e = .returned (.bool true) ∧ Below w.heap.size w w' := by
  have h' : decide ((1024 : Int) < (len : Int)) = false := decide_eq_false (by omega)
  have h2 : decide (1024 < len) = false := decide_eq_false (by omega)
  by_cases a1 : n < -1024
  · go_enter Yba.func3, Yba.ntmps3
    go_wp2
    go_ret
    exact ⟨rfl, Below.refl _ _⟩
  · have d1 : decide (n < -1024) = false := decide_eq_false a1
    by_cases a2 : 1024 < n
    · go_enter Yba.func3, Yba.ntmps3
      go_wp2
      go_ret
      exact ⟨rfl, Below.refl _ _⟩
    · have d2 : decide (1024 < n) = false := decide_eq_false a2
      by_cases a3 : others < -4096
      · go_enter Yba.func3, Yba.ntmps3
        go_wp2
        go_ret
        exact ⟨rfl, Below.refl _ _⟩
      · have d3 : decide (others < -4096) = false := decide_eq_false a3
        by_cases a4 : 4096 < others
        · go_enter Yba.func3, Yba.ntmps3
          go_wp2
          go_ret
          exact ⟨rfl, Below.refl _ _⟩
        · have d4 : decide (4096 < others) = false := decide_eq_false a4
          by_cases a5 : M < -65536
          · go_enter Yba.func3, Yba.ntmps3
            go_wp2
            go_ret
            exact ⟨rfl, Below.refl _ _⟩
          · have d5 : decide (M < -65536) = false := decide_eq_false a5
            have a6 : 65536 < M := by omega
            go_enter Yba.func3, Yba.ntmps3
            go_wp2
            go_ret
            exact ⟨rfl, Below.refl _ _⟩

set_option maxRecDepth 100000 in
set_option maxHeartbeats 1000000 in
theorem law_in (ao : Option Addr) (ab off len cap ex : Nat) (n others M T : Int) (xs : List Int) (w : World) (h : len ≤ 1024) (hn0 : -1024 ≤ n) (hn1 : n ≤ 1024) (ho0 : -4096 ≤ others) (ho1 : others ≤ 4096) (h0 : -65536 ≤ M) (h1 : M ≤ 65536) (hT : M.tdiv 4 = T)
    (hao : 0 < len → ao = some ⟨ab, off, none⟩) (hxl : xs.length = len * 2) (hx : ∀ i, i < len * 2 → w.cell? ⟨ab, off + i, none⟩ = some (.int .i32 (xs.getD i 0))) :
    Calls Yba.prog 3 #[.slice ao len cap, .int .u8 (ex : Int), .int .i64 n, .int .i64 others, .int .i64 M] w fun e w' => e = .returned (.bool true) ∧ Below w.heap.size w w' := by
  have h' : decide ((1024 : Int) < (len : Int)) = false := decide_eq_false (by omega)
  have h2 : decide (1024 < len) = false := decide_eq_false (by omega)
  have d1 : decide (n < -1024) = false := decide_eq_false (by omega)
  have d2 : decide (1024 < n) = false := decide_eq_false (by omega)
  have d3 : decide (others < -4096) = false := decide_eq_false (by omega)
  have d4 : decide (4096 < others) = false := decide_eq_false (by omega)
  have d5 : decide (M < -65536) = false := decide_eq_false (by omega)
  have d6 : decide (65536 < M) = false := decide_eq_false (by omega)
  have ht : (ex : Int).tmod 16 = ((ex % 16 : Nat) : Int) := (Int.ofNat_tmod ex 16).symm
  have hr : ex % 16 < 16 := Nat.mod_lt _ (by decide)
  generalize ex % 16 = r at ht hr
  obtain ⟨i0, hi, hz0, hz1, hz2⟩ := info_parts info37
  have HX : Hid ((0 < len → ao = some ⟨ab, off, none⟩) ∧ xs.length = len * 2 ∧ ∀ i, i < len * 2 → w.cell? ⟨ab, off + i, none⟩ = some (.int .i32 (xs.getD i 0))) := ⟨hao, hxl, hx⟩
  clear hao hxl hx
  go_enter Yba.func3, Yba.ntmps3
  go_wp2_with (at_make; refine wpList_make_lc _ rfl _ _ 22 rfl 37 i0 (.agg #[.int .i32 0, .int .i32 0]) 2 Yba.underlying22 hi hz0 hz1 .i64 .i64 _ _ len (len + r) rfl rfl rfl ?hC ?hlc ?b2 ?b3 ?_)
  case hC => rfl
  case hlc => omega
  case b2 => rw [hz2]; omega
  case b3 => omega
  have HSZ : Hid ((madeCells #[.int .i32 0, .int .i32 0] ((len + r) * 2)).size = (len + r) * 2) := size_madeCells _ _
  have HG : Hid ((w.alloc (.cells (madeCells #[.int .i32 0, .int .i32 0] ((len + r) * 2)) 37)).heap[w.heap.size]? = some (.cells (madeCells #[.int .i32 0, .int .i32 0] ((len + r) * 2)) 37 (0, 0))) := by show (w.heap.push _)[w.heap.size]? = _; simp
  have BB : Hid (Below w.heap.size w (w.alloc (.cells (madeCells #[.int .i32 0, .int .i32 0] ((len + r) * 2)) 37))) := (Below.refl _ _).alloc (Nat.le_refl _) _
  have HV : Hid ((xs.map (Value.int .i32)).length = len * 2 ∧ ∀ v ∈ xs.map (Value.int .i32), v.oneCell' = true) := ⟨by rw [List.length_map]; exact HX.out.2.1, fun v hv => by obtain ⟨z, _, rfl⟩ := List.mem_map.1 hv; rfl⟩
  obtain ⟨w2, hrun, hh, hbel, _⟩ := run_copy_head (P := Yba.prog) (w.alloc (.cells (madeCells #[.int .i32 0, .int .i32 0] ((len + r) * 2)) 37)) 22 22 3 37 2 Yba.underlying22 (by kernel_rfl) (some ⟨w.heap.size, 0, none⟩) ao len (len + r) cap w.heap.size (madeCells #[.int .i32 0, .int .i32 0] ((len + r) * 2)) 37 HG.out (xs.map (Value.int .i32)) HV.out.1 (fun hp => ⟨rfl, _, HX.out.1 hp, fun j v hj => by
    have hjl : j < len * 2 := by rw [← HV.out.1]; exact (List.getElem?_eq_some_iff.1 hj).1
    have hc := cell_later BB.out (HX.out.2.2 j hjl)
    rw [Addr.add_lit, hc]
    have hj2 : j < xs.length := by rw [HX.out.2.1]; exact hjl
    simp [hj2, List.getD_eq_getElem?_getD] at hj ⊢
    exact hj⟩) (by rw [HSZ.out, HV.out.1]; omega) HV.out.2
  have O2 : Hid (OwnsR w2 37 2 (.slice (some ⟨w.heap.size, 0, none⟩) len (len + r)) len (xs.map (Value.int .i32)) ∧ Below w.heap.size w w2 ∧ w.heap.size < w2.heap.size) := ⟨OwnsR.filled HV.out.1 HSZ.out (by omega) hh, hbel _ _ BB.out (Nat.le_refl _), (Array.getElem?_eq_some_iff.1 hh).1⟩
  rw [hrun]
  simp only [Result.andThen]
  rw [Oper.upon_value]
  clear hrun hh hbel HG BB HSZ
  obtain ⟨z, hz35, hzr⟩ := zero35
  have hzr2 := hzr w2
  have HZ : Hid (z.size = 6157) := hz35
  have hzl : ¬ z.size < 2 := by omega
  clear hz35 hzr
  go_wp2_with fail
  have CM : Hid ((w2.alloc (.cells (z.setIfInBounds 1 (.int .i64 M)) 35)).cell? ⟨w2.heap.size, 1, none⟩ = some (.int .i64 M)) := by
    show _ = _
    rw [cell_of_row _ w2.heap.size 1 (z.setIfInBounds 1 (.int .i64 M)) 35 (0, 0) (by show (w2.heap.push _)[w2.heap.size]? = _; simp)]
    rw [Array.getElem?_setIfInBounds_self, if_pos (by have := HZ.out; omega)]
  have O3 : Hid (OwnsR (w2.alloc (.cells (z.setIfInBounds 1 (.int .i64 M)) 35)) 37 2 (.slice (some ⟨w.heap.size, 0, none⟩) len (len + r)) len (xs.map (Value.int .i32)) ∧ Below w.heap.size w (w2.alloc (.cells (z.setIfInBounds 1 (.int .i64 M)) 35)) ∧ w.heap.size < (w2.alloc (.cells (z.setIfInBounds 1 (.int .i64 M)) 35)).heap.size) :=
    ⟨OwnsR.alloc O2.out.1 _, O2.out.2.1.alloc (by have := O2.out.2.1.size; exact this) _, by have := O2.out.2.2; simp; omega⟩
  clear O2 hzr2 hzl HZ
  generalize (w2.alloc (.cells (z.setIfInBounds 1 (.int .i64 M)) 35)) = W3 at CM O3
  generalize w2.heap.size = rb at CM
  have cm := CM.out
  by_cases hfit : (len : Int) + n ≤ ((len + r : Nat) : Int)
  · refine (grow_same rb w.heap.size len (len + r) n others W3 (by omega) (by omega) hn0 hn1 hfit).mono ?_
    rintro e w4 ⟨rfl, rfl⟩
    have BEND : Hid (Below w.heap.size w w4) := O3.out.2.1
    have PEND : Hid (OwnsR w4 37 2 (.slice (some ⟨w.heap.size, 0, none⟩) len (len + r)) len (xs.map (Value.int .i32))) := O3.out.1

    go_wp2
    go_loopw [16] (fun s16 wr => ∃ k q : Nat, k ≤ len ∧ s16 = .int .i64 k ∧ wr = w4.drewN q) (fun s16 _ => len - (intOf s16).toNat)
    case atStart => exact ⟨0, 0, Nat.zero_le _, rfl, rfl⟩
    case round =>
      obtain ⟨k, q, hk, rfl, rfl⟩ := hrel
      by_cases hlt : k < len
      · obtain rfl := HX.out.1 (by omega)
        have hlt' : (k : Int) < (len : Int) := by omega
        have ca := cell_later BEND.out (HX.out.2.2 (k * 2) (by omega))
        have cb := cell_later BEND.out (HX.out.2.2 (k * 2 + 1) (by omega))
        have pa := PEND.out.cell (k * 2) (by omega)
        have pb := PEND.out.cell (k * 2 + 1) (by omega)
        have hx1 : k * 2 < xs.length := by rw [HX.out.2.1]; omega
        have hx2 : k * 2 + 1 < xs.length := by rw [HX.out.2.1]; omega
        have ea : (xs.map (Value.int .i32))[k * 2]? = some (.int .i32 (xs.getD (k * 2) 0)) := by simp [hx1, List.getD_eq_getElem?_getD]
        have eb : (xs.map (Value.int .i32))[k * 2 + 1]? = some (.int .i32 (xs.getD (k * 2 + 1) 0)) := by simp [hx2, List.getD_eq_getElem?_getD]
        rw [ea] at pa
        rw [eb] at pb
        rw [Nat.zero_add] at pa pb
        rw [← Nat.add_assoc] at cb
        clear ea eb hx1 hx2
        generalize xs.getD (k * 2) 0 = za at ca pa
        generalize xs.getD (k * 2 + 1) 0 = zb at cb pb
        have hne := fun W' => neq37 za zb W'
        go_wp2
        go_quiet (fail)
        go_wp2
        go_roundw
        case rel => exact ⟨k + 1, _, by omega, by go_num, rfl⟩
        case measure => simp [intOf]; omega
      · have hke : k = len := by omega
        have hlt' : decide ((k : Int) < (len : Int)) = false := decide_eq_false (by omega)
        have hlt2 : decide (k < len) = false := decide_eq_false hlt
        clear hke hk
        by_cases hl0 : 0 < len
        · have hl0' : (0 : Int) < (len : Int) := by omega
          have hpn := fun W' => Lib.run_neq_ptr_same (P := Yba.prog) W' ⟨w.heap.size, 0, none⟩ Yba.underlying38 hi
          go_wp2
          go_quiet (fail)
          go_wp2
          go_ret
          exact ⟨rfl, BEND.out.os, BEND.out.tape, BEND.out.output, BEND.out.size, BEND.out.block⟩
        · have hl0' : decide ((0 : Int) < (len : Int)) = false := decide_eq_false (by omega)
          have hl02 : decide (0 < len) = false := decide_eq_false hl0
          go_wp2
          go_quiet (fail)
          go_wp2
          go_ret
          exact ⟨rfl, BEND.out.os, BEND.out.tape, BEND.out.output, BEND.out.size, BEND.out.block⟩
  · refine (grow_new rb w.heap.size len (len + r) n others M T (xs.map (Value.int .i32)) W3 (by omega) (by omega) hn0 hn1 ho0 ho1 h0 h1 hT hfit CM.out HV.out.2 O3.out.1).mono ?_
    rintro e w4 ⟨kk, hkk, rfl, hO, hB⟩
    have HKK : Hid ((kk : Int) = wantCap len (len + r) n others M T) := hkk
    have REND : Hid (OwnsR w4 37 2 (.slice (some ⟨W3.heap.size, 0, none⟩) len kk) len (xs.map (Value.int .i32))) := hO
    have PEND : Hid (OwnsR w4 37 2 (.slice (some ⟨w.heap.size, 0, none⟩) len (len + r)) len (xs.map (Value.int .i32))) := O3.out.1.below hB
    have BEND : Hid (Below w.heap.size w w4) := O3.out.2.1.trans (hB.mono O3.out.2.1.size)
    have HGR : Hid (w.heap.size < W3.heap.size) := O3.out.2.2
    have cm4 := cell_later hB cm
    clear hkk hO hB cm O3 CM
    generalize W3.heap.size = gr at REND HGR
    go_wp2
    go_loopw [16] (fun s16 wr => ∃ k q : Nat, k ≤ len ∧ s16 = .int .i64 k ∧ wr = w4.drewN q) (fun s16 _ => len - (intOf s16).toNat)
    case atStart => exact ⟨0, 0, Nat.zero_le _, rfl, rfl⟩
    case round =>
      obtain ⟨k, q, hk, rfl, rfl⟩ := hrel
      by_cases hlt : k < len
      · obtain rfl := HX.out.1 (by omega)
        have hlt' : (k : Int) < (len : Int) := by omega
        have ca := cell_later BEND.out (HX.out.2.2 (k * 2) (by omega))
        have cb := cell_later BEND.out (HX.out.2.2 (k * 2 + 1) (by omega))
        have pa := PEND.out.cell (k * 2) (by omega)
        have pb := PEND.out.cell (k * 2 + 1) (by omega)
        have qa := REND.out.cell (k * 2) (by omega)
        have qb := REND.out.cell (k * 2 + 1) (by omega)
        have hx1 : k * 2 < xs.length := by rw [HX.out.2.1]; omega
        have hx2 : k * 2 + 1 < xs.length := by rw [HX.out.2.1]; omega
        have ea : (xs.map (Value.int .i32))[k * 2]? = some (.int .i32 (xs.getD (k * 2) 0)) := by simp [hx1, List.getD_eq_getElem?_getD]
        have eb : (xs.map (Value.int .i32))[k * 2 + 1]? = some (.int .i32 (xs.getD (k * 2 + 1) 0)) := by simp [hx2, List.getD_eq_getElem?_getD]
        rw [ea] at pa qa
        rw [eb] at pb qb
        rw [Nat.zero_add] at pa pb qa qb
        rw [← Nat.add_assoc] at cb
        clear ea eb hx1 hx2
        generalize xs.getD (k * 2) 0 = za at ca pa qa
        generalize xs.getD (k * 2 + 1) 0 = zb at cb pb qb
        have hne := fun W' => neq37 za zb W'
        go_wp2
        go_quiet (fail)
        go_wp2
        go_roundw
        case rel => exact ⟨k + 1, _, by omega, by go_num, rfl⟩
        case measure => simp [intOf]; omega
      · have hke : k = len := by omega
        have hlt' : decide ((k : Int) < (len : Int)) = false := decide_eq_false (by omega)
        have hlt2 : decide (k < len) = false := decide_eq_false hlt
        have hfit' : decide ((len : Int) + n ≤ (len : Int) + (r : Int)) = false := decide_eq_false (by omega)
        have hTb := tdiv4_bd M h0 h1
        rw [hT] at hTb
        obtain ⟨cg, hcg, _⟩ := REND.out.block
        obtain ⟨cp, hcp, _⟩ := PEND.out.block
        have hz1' : i0.size ≠ 0 := by rw [hz1]; decide
        have hpo : ∀ W' : World, W'.heap = w4.heap → (binOp .eql 38 (.pointer (some ⟨gr, 0, none⟩)) (.pointer (some ⟨w.heap.size, 0, none⟩))).run Yba.prog W' = .ok (.bool false) W' := fun W' hW => run_eql_ptr_other W' Yba.underlying38 hi hz1' (fun e => by injection e with e1; have := HGR.out; omega) (by rw [hW]; exact hcg) (by rw [hW]; exact hcp)
        have hpq : ∀ d, (binOp .eql 38 (.pointer (some ⟨gr, 0, none⟩)) (.pointer (some ⟨w.heap.size, 0, none⟩))).run Yba.prog (w4.drewN d) = .ok (.bool false) (w4.drewN d) := fun d => hpo _ rfl
        clear hke hk hcg hcp
        have hways : (M + T - others < 2 * ((len : Int) + (r : Int)) ∧ (len : Int) + n < M + T - others) ∨ (M + T - others < 2 * ((len : Int) + (r : Int)) ∧ M + T - others ≤ (len : Int) + n) ∨ (2 * ((len : Int) + (r : Int)) ≤ M + T - others ∧ (len : Int) + n < 2 * ((len : Int) + (r : Int))) ∨ (2 * ((len : Int) + (r : Int)) ≤ M + T - others ∧ 2 * ((len : Int) + (r : Int)) ≤ (len : Int) + n) := by omega
        rcases hways with ⟨hw1, hw2⟩ | ⟨hw1, hw2⟩ | ⟨hw1, hw2⟩ | ⟨hw1, hw2⟩
        · have hcap : ((kk : Int) != M + T - others) = false := by
            have e : (kk : Int) = M + T - others := by have := HKK.out; unfold wantCap at this; omega
            rw [e, bne_self_eq_false]
          by_cases hl0 : 0 < len
          · have hl0' : (0 : Int) < (len : Int) := by omega
            go_wp2
            go_quiet (fail)
            go_wp2
            go_ret
            exact ⟨rfl, BEND.out.os, BEND.out.tape, BEND.out.output, BEND.out.size, BEND.out.block⟩
          · have hl0' : decide ((0 : Int) < (len : Int)) = false := decide_eq_false (by omega)
            have hl02 : decide (0 < len) = false := decide_eq_false hl0
            go_wp2
            go_quiet (fail)
            go_wp2
            go_ret
            exact ⟨rfl, BEND.out.os, BEND.out.tape, BEND.out.output, BEND.out.size, BEND.out.block⟩
        · have hcap : ((kk : Int) != (len : Int) + n) = false := by
            have e : (kk : Int) = (len : Int) + n := by have := HKK.out; unfold wantCap at this; omega
            rw [e, bne_self_eq_false]
          by_cases hl0 : 0 < len
          · have hl0' : (0 : Int) < (len : Int) := by omega
            go_wp2
            go_quiet (fail)
            go_wp2
            go_ret
            exact ⟨rfl, BEND.out.os, BEND.out.tape, BEND.out.output, BEND.out.size, BEND.out.block⟩
          · have hl0' : decide ((0 : Int) < (len : Int)) = false := decide_eq_false (by omega)
            have hl02 : decide (0 < len) = false := decide_eq_false hl0
            go_wp2
            go_quiet (fail)
            go_wp2
            go_ret
            exact ⟨rfl, BEND.out.os, BEND.out.tape, BEND.out.output, BEND.out.size, BEND.out.block⟩
        · have hcap : ((kk : Int) != 2 * ((len : Int) + (r : Int))) = false := by
            have e : (kk : Int) = 2 * ((len : Int) + (r : Int)) := by have := HKK.out; unfold wantCap at this; omega
            rw [e, bne_self_eq_false]
          by_cases hl0 : 0 < len
          · have hl0' : (0 : Int) < (len : Int) := by omega
            go_wp2
            go_quiet (fail)
            go_wp2
            go_ret
            exact ⟨rfl, BEND.out.os, BEND.out.tape, BEND.out.output, BEND.out.size, BEND.out.block⟩
          · have hl0' : decide ((0 : Int) < (len : Int)) = false := decide_eq_false (by omega)
            have hl02 : decide (0 < len) = false := decide_eq_false hl0
            go_wp2
            go_quiet (fail)
            go_wp2
            go_ret
            exact ⟨rfl, BEND.out.os, BEND.out.tape, BEND.out.output, BEND.out.size, BEND.out.block⟩
        · have hcap : ((kk : Int) != (len : Int) + n) = false := by
            have e : (kk : Int) = (len : Int) + n := by have := HKK.out; unfold wantCap at this; omega
            rw [e, bne_self_eq_false]
          by_cases hl0 : 0 < len
          · have hl0' : (0 : Int) < (len : Int) := by omega
            go_wp2
            go_quiet (fail)
            go_wp2
            go_ret
            exact ⟨rfl, BEND.out.os, BEND.out.tape, BEND.out.output, BEND.out.size, BEND.out.block⟩
          · have hl0' : decide ((0 : Int) < (len : Int)) = false := decide_eq_false (by omega)
            have hl02 : decide (0 < len) = false := decide_eq_false hl0
            go_wp2
            go_quiet (fail)
            go_wp2
            go_ret
            exact ⟨rfl, BEND.out.os, BEND.out.tape, BEND.out.output, BEND.out.size, BEND.out.block⟩
end Go.Proofs.Ybulkdeic
