/-
  OWN WORK. The two laws' walks.
-/
import Derived.Test.YbulkdeicDoorDP
import Derived.Laws.BytesArg
import Derived.LaidEql
namespace Go.Proofs.YbulkdeicDoor
open Go.RowKit

/-- The bytes' text. -/
def strOf (l : List UInt8) : ByteArray := strOfNums (l.map fun b => (b.toNat : Int))

theorem eq_err (be : Nat) (w : World) : (binOp .eql 31 (erv be) (erv be)).run Ybad.prog w = .ok (.bool true) w := by
  obtain ⟨j, hj, _⟩ := Option.map_eq_some_iff.1 (show (Ybad.prog.info? 79).map (fun i => i.size) = some 1 by kernel_rfl)
  obtain ⟨i, hi, hc⟩ := Option.map_eq_some_iff.1 (show (Ybad.prog.info? 77).map (fun i => i.comparable) = some true by kernel_rfl)
  exact run_eql_iface_ptr_same w ⟨be, 0, none⟩ Ybad.underlying31 Ybad.underlying77 hi hc hj

theorem own_conv {W : World} {v : Value} {l : List UInt8} (h : Own W 5 1 v l.length (Lib.byteCells l)) : (convert 26 9 v).run Ybad.prog W = .ok (.string (strOf l)) W := by
  rcases h.2 with ⟨rfl, h0⟩ | ⟨g, cap, cur, rfl, _, hg, _⟩
  · obtain rfl : l = [] := List.eq_nil_of_length_eq_zero h0
    rw [run_convert_bytes_nil W 26 5 Ybad.underlying26 Ybad.underlying5 0 0 9 Ybad.underlying9]
    rfl
  · have hc := h
    refine run_convert_bytes_arg W 26 5 Ybad.underlying26 Ybad.underlying5 g 0 l.length cap _ (by simp) (fun i hi => ?_) 9 Ybad.underlying9
    rw [Nat.zero_add, hc.cell i (by omega)]
    simp [Lib.byteCells, hi, List.getD_eq_getElem?_getD]

/-- What the laws take in. -/
structure Args (w : World) (ao ar : Option Addr) (b off b2 off2 : Nat) (ds : List ByteArray) (rs : List (Nat × Int)) : Prop where
  d0 : 0 < ds.length → ao = some ⟨b, off, none⟩
  dc : ∀ j s, ds[j]? = some s → w.cell? ⟨b, off + j, none⟩ = some (.string s)
  r0 : 0 < rs.length → ar = some ⟨b2, off2, none⟩
  rc : ∀ j r, rs[j]? = some r → w.cell? ⟨b2, off2 + j * 2, none⟩ = some (.int .u16 (r.1 : Int)) ∧ w.cell? ⟨b2, off2 + j * 2 + 1, none⟩ = some (.int .i32 r.2) ∧ r.1 < 65536 ∧ -2147483648 ≤ r.2 ∧ r.2 ≤ 2147483647

/-- WriteDP behind the build, the writer in its own new block. -/
theorem writeDP_built {w w1 : World} {bm gf be : Nat} {f : Bool} {ds : List ByteArray} {rs : List (Nat × Int)} {iv en ad bu dp wv : Value} {ao ar : Option Addr} {b off b2 off2 : Nat} (ha : Args w ao ar b off b2 off2 ds rs) (hs : Small ds rs.length) (h : Dp w w1 bm gf (d0 :: ds) rs iv en ad bu dp wv (wantOf (d0 :: ds) rs)) (bz : Nat) (hbz : w.heap.size ≤ bz)
    (hz : w1.heap[bz]? = some (.cells #[.slice none 0 0, .int .i64 0, if f then erv be else .nilIface] 33 (0, 0)))
    (htab : ∀ W, Below w.heap.size w W → Lib.TabIs Ybad.prog W powName .u64 Lib.pow10Tab) :
    Calls Ybad.prog 7 #[.pointer (some ⟨bm, 0, none⟩), .iface 29 (.pointer (some ⟨bz, 0, none⟩))] w1 fun e w' => ∃ (zv : Value) (z : List UInt8) (c : Nat), e = .returned (if f = true ∧ wantOf (d0 :: ds) rs ≠ [] then erv be else .nilIface) ∧ w'.heap[bz]? = some (.cells #[zv, .int .i64 c, if f then erv be else .nilIface] 33 (0, 0)) ∧ Own w' 5 1 zv z.length (Lib.byteCells z) ∧ c ≤ 50000000 ∧
      (0 < c ↔ wantOf (d0 :: ds) rs ≠ []) ∧ z = (if f then [] else wantOf (d0 :: ds) rs) ∧ Below w.heap.size w w' ∧ w'.cell? ⟨bm, 25, none⟩ = some dp ∧ Own w' 5 1 wv (wantOf (d0 :: ds) rs).length (Lib.byteCells (wantOf (d0 :: ds) rs)) := by
  have hfe : flat (d0 :: ds) = [100, 48] ++ flat ds := by unfold flat; simp
  have hbel : ∀ W, Ch (fun k => k = bz ∨ bu.ownBlock = some k) w1 W → Below w.heap.size w W := fun W hW =>
    (h.bl.ch.trans hW (T := fun k => k = bz ∨ bu.ownBlock = some k) (S := fun k => False) (fun x hx e => by
      rcases e with e | e
      · omega
      · have := h.bl.buN x e; omega)).toBelow (Nat.le_refl _) (fun _ _ h => h.elim)
  have hne : ∀ k, k = bz ∨ bu.ownBlock = some k → k ≠ bm := by
    rintro k (e | e) e2
    · have h2 := h.bl.map
      unfold MapAt at h2
      rw [← e2, e, hz] at h2
      cases h2
    · exact h.bl.apart.2.2.2.2.2.1 (by rw [← e2]; exact e)
  refine (writeDP (be := be) h (by rw [hfe]; simp) (by simp) ?_ ?_ ?_ hs.2.1 ?_ hz (fun W hW => htab W (hbel W hW))).mono ?_
  · intro s hx
    rcases List.mem_cons.1 hx with rfl | hx
    · decide
    · exact hs.2.2.1 s hx
  · rw [hfe, List.length_append]
    have := hs.2.2.2
    simp
    omega
  · have := hs.1
    simp
    omega
  · intro r hr
    obtain ⟨j, hj⟩ := List.getElem?_of_mem hr
    exact (ha.rc j r hj).2.2.2
  · rintro e w' ⟨zv, z, c, rfl, y1, y2, y3, y4, y5, y6⟩
    refine ⟨zv, z, c, rfl, y1, y2, y3, y4, y5, hbel w' y6, y6.cell (h.bl.map.cell 25) (fun e => hne bm e rfl), h.want.ch y6 (fun j hj e => ?_)⟩
    rcases e with e | e
    · exact h.want.ne hz (by decide) (by rw [← e]; exact hj)
    · exact h.ne j hj e

set_option maxHeartbeats 4000000 in
set_option maxRecDepth 100000 in
theorem lawLines (ao ar : Option Addr) (b off cap b2 off2 cr : Nat) (ds : List ByteArray) (rs : List (Nat × Int)) (w : World) (ha : Args w ao ar b off b2 off2 ds rs)
    (htab : ∀ W, Below w.heap.size w W → Lib.TabIs Ybad.prog W powName .u64 Lib.pow10Tab) :
    Calls Ybad.prog 3 #[.slice ao ds.length cap, .slice ar rs.length cr] w fun e w' => e = .returned (.bool true) ∧ Below w.heap.size w w' := by
  have HA := Lib.hid (And.intro ha htab)
  clear ha htab
  go_enter Ybad.func3, Ybad.ntmps3
  go_wp2_with fail
  refine (toobig ao ar b off cap rs.length cr ds w HA.out.1.d0 HA.out.1.dc).mono ?_
  rintro e w0 ⟨bo, rfl, rfl, hsm⟩
  cases bo with
  | true =>
    go_wp2
    go_ret
    exact ⟨rfl, Below.refl _ _⟩
  | false =>
    have SM := Lib.hid (hsm rfl)
    clear hsm
    go_wp2_with fail
    refine (build ao ar b off cap b2 off2 cr ds rs _ HA.out.1.d0 HA.out.1.dc HA.out.1.r0 HA.out.1.rc SM.out).mono ?_
    rintro e w1 ⟨bm, gf, iv, en, ad, bu, dp, wv, rfl, hD⟩
    have D1 := Lib.hid (hD.alloc (.cells #[.slice none 0 0, .int .i64 0, .nilIface] 33))
    have hw1 := hD.bl.ch.size
    obtain ⟨aod, capd, rfl⟩ := hD.row.slice_of
    obtain ⟨aow, capw, rfl⟩ := hD.want.slice_of
    have DPC := Lib.hid (writeDP_built (f := false) (be := 0) HA.out.1 SM.out D1.out w1.heap.size hw1 (heap_alloc_new w1 _) HA.out.2)
    obtain ⟨DD, hDD⟩ : ∃ DD, wantOf (d0 :: ds) rs = DD := ⟨_, rfl⟩
    rw [hDD] at DPC ⊢
    clear hD hDD D1
    go_wp2_with fail
    refine DPC.out.mono ?_
    rintro e w2 ⟨zv, z, c, rfl, y1, y2, y3, y4, y5, y6, y7, y8⟩
    simp only [Bool.false_eq_true, if_false] at y1 y5
    rw [y5] at y2
    obtain ⟨aoz, capz, rfl⟩ := y2.slice_of
    have x0 : w2.cell? ⟨w1.heap.size, 0, none⟩ = some (.slice aoz DD.length capz) := by rw [cell_of_row w2 _ _ _ _ _ y1]; rfl
    have x1 : w2.cell? ⟨w1.heap.size, 1, none⟩ = some (.int .i64 c) := by rw [cell_of_row w2 _ _ _ _ _ y1]; rfl
    have v1 : ∀ q, (convert 26 9 (.slice aoz DD.length capz)).run Ybad.prog (w2.drewN q) = .ok (.string (strOf DD)) (w2.drewN q) := fun q => own_conv (y2.drewN q)
    have v2 : ∀ q, (convert 26 9 (.slice aow DD.length capw)).run Ybad.prog (w2.drewN q) = .ok (.string (strOf DD)) (w2.drewN q) := fun q => own_conv (y8.drewN q)
    have v3 : (convert 26 9 (.slice aoz DD.length capz)).run Ybad.prog w2.drew = .ok (.string (strOf DD)) w2.drew := own_conv y2.drew
    have v4 : (convert 26 9 (.slice aow DD.length capw)).run Ybad.prog w2.drew = .ok (.string (strOf DD)) w2.drew := own_conv y8.drew
    have FB := Lib.hid y6
    by_cases hD0 : DD = []
    · have hc0 : c = 0 := by
        rcases Nat.eq_zero_or_pos c with h | h
        · exact h
        · exact absurd hD0 (y4.1 h)
      subst hc0
      have hl0 : DD.length = 0 := by rw [hD0]; rfl
      rw [hl0] at x0 v1 v2 v3 v4 ⊢
      clear y1 y2 y3 y4 y6 y8 hD0 hl0 DPC
      go_wp2
      go_region
      all_goals (go_wp2; go_ret; exact ⟨by simp, FB.out.drew⟩)
    · have hcp : decide (0 < c) = true := decide_eq_true (y4.2 hD0)
      have hlp : decide (0 < DD.length) = true := decide_eq_true (ne_nil_len hD0)
      clear y1 y2 y3 y4 y6 y8 hD0 DPC
      go_wp2
      go_region
      all_goals (go_wp2; go_ret; exact ⟨by simp, FB.out.drew⟩)

set_option maxHeartbeats 1000000 in
set_option maxRecDepth 100000 in
theorem errorsNew (s : ByteArray) (w : World) : Calls Ybad.prog 8 #[.string s] w fun e w' => e = .returned (erv w.heap.size) ∧ w' = w.alloc (.cells #[.string s] 79) := by
  go_enter Ybad.func8, Ybad.ntmps8
  go_wp2
  go_ret
  exact ⟨rfl, rfl⟩

set_option maxHeartbeats 4000000 in
set_option maxRecDepth 100000 in
theorem lawFail (ao ar : Option Addr) (b off cap b2 off2 cr : Nat) (ds : List ByteArray) (rs : List (Nat × Int)) (w : World) (ha : Args w ao ar b off b2 off2 ds rs)
    (htab : ∀ W, Below w.heap.size w W → Lib.TabIs Ybad.prog W powName .u64 Lib.pow10Tab) :
    Calls Ybad.prog 4 #[.slice ao ds.length cap, .slice ar rs.length cr] w fun e w' => e = .returned (.bool true) ∧ Below w.heap.size w w' := by
  have HA := Lib.hid (And.intro ha htab)
  clear ha htab
  go_enter Ybad.func4, Ybad.ntmps4
  go_wp2_with fail
  refine (toobig ao ar b off cap rs.length cr ds w HA.out.1.d0 HA.out.1.dc).mono ?_
  rintro e w0 ⟨bo, rfl, rfl, hsm⟩
  cases bo with
  | true =>
    go_wp2
    go_ret
    exact ⟨rfl, Below.refl _ _⟩
  | false =>
    have SM := Lib.hid (hsm rfl)
    clear hsm
    go_wp2_with fail
    refine (build ao ar b off cap b2 off2 cr ds rs _ HA.out.1.d0 HA.out.1.dc HA.out.1.r0 HA.out.1.rc SM.out).mono ?_
    rintro e w1 ⟨bm, gf, iv, en, ad, bu, dp, wv, rfl, hD⟩
    have D1 := Lib.hid ((hD.alloc (.cells #[.string ⟨#[122, 122, 32, 102, 97, 105, 108]⟩] 79)).alloc (.cells #[.slice none 0 0, .int .i64 0, erv w1.heap.size] 33))
    have hw1 := hD.bl.ch.size
    obtain ⟨aow, capw, rfl⟩ := hD.want.slice_of
    have hz1 : (w1.alloc (.cells #[.string ⟨#[122, 122, 32, 102, 97, 105, 108]⟩] 79)).heap.size = w1.heap.size + 1 := by simp
    have hbz : ((w1.alloc (.cells #[.string ⟨#[122, 122, 32, 102, 97, 105, 108]⟩] 79)).alloc (.cells #[.slice none 0 0, .int .i64 0, erv w1.heap.size] 33)).heap[w1.heap.size + 1]? = some (.cells #[.slice none 0 0, .int .i64 0, if true then erv w1.heap.size else .nilIface] 33 (0, 0)) := by
      rw [← hz1]
      exact heap_alloc_new _ _
    have DPC := Lib.hid (writeDP_built (f := true) (be := w1.heap.size) HA.out.1 SM.out D1.out (w1.heap.size + 1) (by omega) hbz HA.out.2)
    obtain ⟨DD, hDD⟩ : ∃ DD, wantOf (d0 :: ds) rs = DD := ⟨_, rfl⟩
    rw [hDD] at DPC ⊢
    clear hD hDD D1 hbz hz1
    go_wp2_with fail
    refine (errorsNew _ _).mono ?_
    rintro e w9 ⟨rfl, rfl⟩
    go_wp2_with fail
    refine DPC.out.mono ?_
    rintro e w2 ⟨zv, z, c, rfl, y1, y2, y3, y4, y5, y6, y7, y8⟩
    simp only [if_true, true_and] at y1 y5 ⊢
    subst y5
    obtain ⟨aoz, capz, rfl⟩ := y2.slice_of
    have x0 : w2.cell? ⟨w1.heap.size + 1, 0, none⟩ = some (.slice aoz 0 capz) := by rw [cell_of_row w2 _ _ _ _ _ y1]; rfl
    have x1 : w2.cell? ⟨w1.heap.size + 1, 1, none⟩ = some (.int .i64 c) := by rw [cell_of_row w2 _ _ _ _ _ y1]; rfl
    have FB := Lib.hid y6
    by_cases hD0 : DD = []
    · have hc0 : c = 0 := by
        rcases Nat.eq_zero_or_pos c with h | h
        · exact h
        · exact absurd hD0 (y4.1 h)
      subst hc0
      subst hD0
      clear y1 y2 y3 y4 y6 y8 DPC
      go_wp2
      go_ret
      exact ⟨by simp, FB.out⟩
    · have hcp : decide (0 < c) = true := decide_eq_true (y4.2 hD0)
      have hlp : ((DD.length : Int) == 0) = false := by have := ne_nil_len hD0; simp; exact hD0
      have hee := eq_err w1.heap.size w2
      rw [if_pos hD0]
      clear y1 y2 y3 y4 y6 y8 hD0 DPC
      go_wp2
      go_ret
      exact ⟨by simp, FB.out⟩
end Go.Proofs.YbulkdeicDoor
