/-
  OWN WORK. strconv.AppendInt at base 10, with the frame that only the slice's own row has turned.
-/
import Derived.Test.YbulkdeicDoorMem
import Derived.Test.YbulkdeicDoorShelf
import Derived.Lib.Walk
import Derived.Lib.ItoaWalk
import Derived.Lib.ItoaMem
import Derived.Lib.AppendIntMem
import Derived.Lib.OwnKind
import Derived.Lib.Slices
import Derived.Lib.Hide
import Derived.OwnWalk
import Derived.WalkKit
import Derived.BigCall
import Derived.BigGuard
import Derived.CellFam
import Derived.Lib.ItoaLen
namespace Go.Proofs
theorem Ybad.info5 : (Ybad.prog.info? 5).map (fun i => (i.zero, i.size, i.bytes)) = some (some (.int .u8 0), 1, 1) := by kernel_rfl
end Go.Proofs
namespace Go.Proofs.YbulkdeicDoor
open Go.RowKit Go.Sort Go.Lib

theorem Ch.step {v v1 : Value} {w w1 w2 : World} (h : Ch (fun k => v.ownBlock = some k) w w1) (f : Fresh w v v1) (h2 : Ch (fun k => v1.ownBlock = some k) w1 w2) : Ch (fun k => v.ownBlock = some k) w w2 :=
  h.trans h2 (fun x hx e => by rcases f x e with r | r
                               · exact r
                               · omega)
theorem Fresh.trans {v v1 v2 : Value} {w w1 : World} (hs : w.heap.size ≤ w1.heap.size) (f : Fresh w v v1) (g : Fresh w1 v1 v2) : Fresh w v v2 := fun k hk => by
  rcases g k hk with r | r
  · exact f k r
  · exact .inr (by omega)
theorem Fresh.low {v v1 : Value} {w w1 : World} (hs : w.heap.size ≤ w1.heap.size) (g : Fresh w1 v v1) : Fresh w v v1 := fun k hk => by
  rcases g k hk with r | r
  · exact .inl r
  · exact .inr (by omega)

/-- What an append of the text t leaves. -/
def Put (w : World) (v : Value) (n : Nat) (xs : List Value) (t : List UInt8) (r : Value) (w' : World) : Prop :=
  ∃ ao cap, r = .slice ao (n + t.length) cap ∧ Own w' 5 1 (.slice ao (n + t.length) cap) (n + t.length) (xs ++ byteCells t) ∧ Ch (fun k => v.ownBlock = some k) w w' ∧ Fresh w v (.slice ao (n + t.length) cap)

theorem byteCells_one (l : List UInt8) : ∀ u ∈ byteCells l, u.oneCell' = true := by
  intro u hu
  simp only [byteCells, List.mem_map] at hu
  obtain ⟨b, _, rfl⟩ := hu
  rfl

set_option maxHeartbeats 6400000 in
set_option maxRecDepth 100000 in
theorem appendUint_small (n u : Nat) (hu : u < 100) (sv : Value) (xs : List Value) (w : World) (hown : Own w 5 1 sv n xs) (hlim : n + 20 ≤ 140737488355328) :
    Calls Ybad.prog 26 #[sv, .int .u64 u, .int .i64 10] w fun e w' => ∃ r, e = .returned r ∧ Put w sv n xs (decDigits u) r w' := by
  obtain ⟨i0, hi, hz0, hz1, hz2⟩ := info_parts Ybad.info5
  have hlen : (decDigits u).length ≤ 20 := by rw [decDigits_length]; exact nDigits_le20 u (by omega)
  have hsz : (⟨(decDigits u).toArray⟩ : ByteArray).size = (decDigits u).length := by simp [ByteArray.size]
  have HO := hid hown
  go_enter Ybad.func26, Ybad.ntmps26
  go_wp2_with (first
    | (go_at_call 29; refine (Ybad.internal_strconv_small u hu _).mono ?_; rintro e w' ⟨rfl, rfl⟩)
    | (at_builtin; refine wpList_append_Own_string _ rfl _ _ 26 9 rfl 5 i0 Ybad.underlying26 Ybad.underlying9 hi hz0 hz1 hz2 sv n xs rfl HO.out ⟨(decDigits u).toArray⟩ rfl ?b1 ?b2 ?_))
  case b1 => rw [hsz]; unfold maxLen; omega
  case b2 => rw [hsz]; omega
  intro ao' cap' w1 h1 h2 h3
  go_wp2
  go_ret
  exact ⟨_, rfl, ao', cap', rfl, h1, h2, h3⟩

set_option maxHeartbeats 12800000 in
set_option maxRecDepth 100000 in
theorem appendUint_big (n u : Nat) (hu : 100 ≤ u) (hu64 : u < 18446744073709551616) (sv : Value) (xs : List Value) (w : World) (hown : Own w 5 1 sv n xs) (hlim : n + 20 ≤ 140737488355328)
    (htab : TabIs Ybad.prog w powName .u64 pow10Tab) :
    Calls Ybad.prog 26 #[sv, .int .u64 u, .int .i64 10] w fun e w' => ∃ r, e = .returned r ∧ Put w sv n xs (decDigits u) r w' := by
  obtain ⟨i0, hi, hz0, hz1, hz2⟩ := info_parts Ybad.info5
  have hu1 : 1 ≤ u := by omega
  have hnd20 : nDigits u ≤ 20 := nDigits_le20 u hu64
  have hal : Ybad.prog.arrayLen 98 = 24 := by kernel_rfl
  have hsl : ∀ W, (Instr.sliceAt 98 (.pointer (some ⟨w.heap.size, 0, none⟩)) none (some (.int .i64 (nDigits u : Int))) none).run Ybad.prog W = .ok (.slice (some ⟨w.heap.size, 0, none⟩) (nDigits u) 24) W := fun W => by
    rw [run_sliceAt_array_h W 98 ⟨w.heap.size, 0, none⟩ (by kernel_rfl) .i64 (nDigits u : Int) (by omega) (by rw [hal]; omega)]
    rw [hal]
    go_simp
  have hH0 := holds_zero0 w 98 (nDigits u) (by omega)
  have hfmt := Ybad.internal_strconv_formatBase10 w.heap.size 0 24 u (Array.replicate (nDigits u) 0) (w.alloc (.cells zeros24 98)) hH0 (by rw [Array.size_replicate]; exact lt_pow_nDigits u) hu64 (by rw [Array.size_replicate]; omega)
  rw [Array.size_replicate] at hfmt
  have HH0 := hid hH0
  have iu : (100 : Int) ≤ (u : Int) := by omega
  clear hH0 hal
  have HO := hid hown
  clear hown
  go_enter Ybad.func26, Ybad.ntmps26
  go_wp2_with (first
    | (go_at_call 30; refine (Ybad.internal_strconv_numDigits u hu1 hu64 _ (tabIs_alloc htab _)).mono ?_; rintro e w' ⟨rfl, rfl⟩))
  go_at_call 31
  refine hfmt.mono ?_
  rintro e w' ⟨rfl, k, v', dk, rfl, hF⟩
  have hcells : ∀ j u', (byteCells (decDigits u))[j]? = some u' → ((putRow (fun (b : UInt8) => Value.int .u8 (b.toNat : Int)) (w.alloc (.cells zeros24 98)) w.heap.size 0 dk).drewN k).cell? ((⟨w.heap.size, 0, none⟩ : Addr).add j) = some u' := by
    intro j u' hj
    have hjl : j < (decDigits u).length := by
      have h5 := (List.getElem?_eq_some_iff.1 hj).1
      rwa [byteCells_length] at h5
    have e5 : (byteCells (decDigits u))[j]? = some (Value.int .u8 ((decDigits u)[j].toNat : Int)) := by simp [byteCells, hjl]
    rw [e5] at hj
    cases hj
    rw [row_is_numeral hF j hjl, add_plain, World.cell?_drewN]
    exact cell?_putRow (fun (b : UInt8) => Value.int .u8 (b.toNat : Int)) _ w.heap.size 0 _ dk HH0.out (by rw [hF.size, Array.size_replicate]) j (by rw [hF.size]; rw [decDigits_length] at hjl; exact hjl)
  obtain ⟨os, eo⟩ := fin_at w (.cells zeros24 98) dk k 0
  have hown2 : Own ((putRow (fun (b : UInt8) => Value.int .u8 (b.toNat : Int)) (w.alloc (.cells zeros24 98)) w.heap.size 0 dk).drewN k) 5 1 sv n xs := by rw [eo]; exact ownsRow_grow HO.out k os
  have hch2 : Ch (fun k => sv.ownBlock = some k) w ((putRow (fun (b : UInt8) => Value.int .u8 (b.toNat : Int)) (w.alloc (.cells zeros24 98)) w.heap.size 0 dk).drewN k) := by rw [eo]; exact Ch.ofBelow (below_grow w.heap.size w (Nat.le_refl _) k os)
  generalize (putRow (fun (b : UInt8) => Value.int .u8 (b.toNat : Int)) (w.alloc (.cells zeros24 98)) w.heap.size 0 dk).drewN k = W2 at hcells hown2 hch2 ⊢
  clear eo HH0 hfmt
  go_wp2_with (at_builtin; refine wpList_append_Own _ rfl _ _ 26 rfl 5 i0 (.int .u8 0) 1 1 Ybad.underlying26 hi hz0 hz1 hz2 rfl (by decide) sv n xs rfl hown2 ⟨w.heap.size, 0, none⟩ (nDigits u) 24 (byteCells (decDigits u)) rfl ?c0 hcells (byteCells_one _) ?c3 ?c4 ?_)
  case c0 => rw [byteCells_length, decDigits_length, Nat.mul_one]
  case c3 => unfold maxLen; omega
  case c4 => omega
  intro ao' cap' w3 h1 h2 h3
  go_wp2
  go_ret
  refine ⟨_, rfl, ao', cap', by rw [decDigits_length]; rfl, by rw [decDigits_length]; exact h1, hch2.trans h2 (fun _ _ h => h), by rw [decDigits_length]; exact h3.low hch2.size⟩

theorem appendUint (n u : Nat) (hu64 : u < 18446744073709551616) (sv : Value) (xs : List Value) (w : World) (hown : Own w 5 1 sv n xs) (hlim : n + 20 ≤ 140737488355328)
    (htab : TabIs Ybad.prog w powName .u64 pow10Tab) :
    Calls Ybad.prog 26 #[sv, .int .u64 u, .int .i64 10] w fun e w' => ∃ r, e = .returned r ∧ Put w sv n xs (decDigits u) r w' := by
  by_cases h : u < 100
  · exact appendUint_small n u h sv xs w hown hlim
  · exact appendUint_big n u (by omega) hu64 sv xs w hown hlim htab


theorem byteCells_cons (b : UInt8) (l : List UInt8) : byteCells (b :: l) = .int .u8 b.toNat :: byteCells l := by simp [byteCells]

theorem cell_one_new (w : World) (x : Value) (t : TypeId) : ∀ (j : Nat) (u : Value), [x][j]? = some u → (w.alloc (.cells #[x] t)).cell? ((⟨w.heap.size, 0, none⟩ : Addr).add j) = some u := by
  intro j u hj
  match j, hj with
  | 0, hj => simp at hj; subst hj; simp [Addr.add]

set_option maxHeartbeats 6400000 in
set_option maxRecDepth 100000 in
theorem appendInt20 (n : Nat) (i : Int) (h0 : -9223372036854775807 ≤ i) (h1 : i ≤ 9223372036854775807) (sv : Value) (xs : List Value) (w : World) (hown : Own w 5 1 sv n xs) (hlim : n + 21 ≤ 140737488355328)
    (htab : ∀ W, Ch (fun k => sv.ownBlock = some k) w W → TabIs Ybad.prog W powName .u64 pow10Tab) :
    Calls Ybad.prog 20 #[sv, .int .i64 i, .int .i64 10] w fun e w' => ∃ r, e = .returned r ∧ Put w sv n xs (itoa i) r w' := by
  obtain ⟨i0, hi, hz0, hz1, hz2⟩ := info_parts Ybad.info5
  have HO := hid hown
  have HT := hid htab
  clear hown htab
  by_cases hneg : i < 0
  · obtain ⟨u, hu⟩ : ∃ u : Nat, i = -(u : Int) := ⟨i.natAbs, by omega⟩
    subst hu
    have hu1 : 1 ≤ u := by omega
    have hwrap : (IntKind.u64.wrap (-(u : Int))) = 18446744073709551616 - (u : Int) := by
      simp [IntKind.wrap, IntKind.signed, IntKind.bits]
      omega
    have hwrap2 : (IntKind.u64.wrap (-(18446744073709551616 - (u : Int)))) = (u : Int) := by
      simp [IntKind.wrap, IntKind.signed, IntKind.bits]
      omega
    have hit : itoa (-(u : Int)) = 45 :: decDigits u := itoa_neg u hu1
    go_enter Ybad.func20, Ybad.ntmps20
    go_wp2_with (first | (go_at_call 26; fail) | (at_builtin; refine wpList_append_Own _ rfl _ _ 26 rfl 5 i0 (.int .u8 0) 1 1 Ybad.underlying26 hi hz0 hz1 hz2 rfl (by decide) sv n xs rfl (HO.out.alloc _) ⟨w.heap.size, 0, none⟩ 1 1 [.int .u8 45] rfl rfl ?c1 ?c2 ?c3 ?c4 ?_))
    case c1 => exact cell_one_new w _ _
    case c2 => intro x hx; simp at hx; subst hx; rfl
    case c3 => unfold maxLen; omega
    case c4 => omega
    intro ao' cap' w1 o1 k1 f1
    have k1' : Ch (fun k => sv.ownBlock = some k) w w1 := ((Ch.refl (fun k => sv.ownBlock = some k) w).alloc (.cells #[.int .u8 45] 5)).trans k1 (fun _ _ h => h)
    have f1' : Fresh w sv (.slice ao' (n + 1) cap') := Fresh.low (by simp) f1
    have F := hid (And.intro k1' f1')
    have tb := HT.out w1 k1'
    clear k1 f1 k1' f1' HO HT
    go_wp2_with (go_at_call 26; refine (appendUint (n + 1) u (by omega) _ _ _ o1 (by omega) tb).mono ?_; rintro e w2 ⟨r, rfl, ao2, cap2, rfl, o2, k2, f2⟩)
    go_wp2
    go_ret
    have el : n + 1 + (decDigits u).length = n + (itoa (-(u : Int))).length := by rw [hit]; simp; omega
    refine ⟨_, rfl, ao2, cap2, by rw [← el]; rfl, ?_, F.out.1.step F.out.2 k2, ?_⟩
    · rw [← el, hit, byteCells_cons]
      simpa using o2
    · rw [← el]
      exact F.out.2.trans F.out.1.size f2
  · obtain ⟨u, hu⟩ : ∃ u : Nat, i = (u : Int) := ⟨i.toNat, by omega⟩
    subst hu
    have hwrap : (IntKind.u64.wrap (u : Int)) = (u : Int) := by
      simp [IntKind.wrap, IntKind.signed, IntKind.bits]
      omega
    have hit : itoa (u : Int) = decDigits u := itoa_nonneg u
    have tb := HT.out w (Ch.refl _ _)
    go_enter Ybad.func20, Ybad.ntmps20
    go_wp2_with (go_at_call 26; refine (appendUint n u (by omega) _ _ _ HO.out (by omega) tb).mono ?_; rintro e w2 ⟨r, rfl, ao2, cap2, rfl, o2, k2, f2⟩)
    go_wp2
    go_ret
    exact ⟨_, rfl, ao2, cap2, by rw [hit]; rfl, by rw [hit]; exact o2, k2, by rw [hit]; exact f2⟩

set_option maxRecDepth 100000 in
/-- strconv.AppendInt at base 10. -/
theorem appendInt (n : Nat) (i : Int) (h0 : -9223372036854775807 ≤ i) (h1 : i ≤ 9223372036854775807) (sv : Value) (xs : List Value) (w : World) (hown : Own w 5 1 sv n xs) (hlim : n + 21 ≤ 140737488355328)
    (htab : ∀ W, Ch (fun k => sv.ownBlock = some k) w W → TabIs Ybad.prog W powName .u64 pow10Tab) :
    Calls Ybad.prog 14 #[sv, .int .i64 i, .int .i64 10] w fun e w' => ∃ r, e = .returned r ∧ Put w sv n xs (itoa i) r w' := by
  go_enter Ybad.func14, Ybad.ntmps14
  go_wp2_with (go_at_call 20; refine (appendInt20 n i h0 h1 sv xs w hown hlim htab).mono ?_; rintro e w2 ⟨r, rfl, h2⟩)
  go_wp2
  go_ret
  exact ⟨_, rfl, h2⟩

end Go.Proofs.YbulkdeicDoor
