/-
  OWN WORK. bufio.Writer's Write over the test's own writer.
-/
import Derived.Test.YbulkdeicDoorBuf
import Derived.Laws.CopyRow
import Derived.Deep.RegionLaw
namespace Go.Proofs.YbulkdeicDoor
open Go.RowKit

/-- What has been handed to the bufio.Writer (D), against what lies where. -/
def Inv (f : Bool) (D : List UInt8) (er : Bool) (u z : List UInt8) (c : Nat) : Prop :=
  (f = false ∧ er = false ∧ z ++ u = D ∧ c ≤ z.length ∧ (z ≠ [] → 0 < c)) ∨ (f = true ∧ er = false ∧ z = [] ∧ u = D ∧ c = 0) ∨ (f = true ∧ er = true ∧ z = [] ∧ D ≠ [] ∧ c = 1)

theorem Wr.drewN {w : World} {bw gb bz be : Nat} {f er : Bool} {u z : List UInt8} {c : Nat} {zv : Value} (h : Wr w bw gb bz be f er u z c zv) (q : Nat) : Wr (w.drewN q) bw gb bz be f er u z c zv :=
  ⟨h.wr, h.buf, h.ulen, h.zz, h.own, h.ne⟩
theorem Wr.drew {w : World} {bw gb bz be : Nat} {f er : Bool} {u z : List UInt8} {c : Nat} {zv : Value} (h : Wr w bw gb bz be f er u z c zv) : Wr w.drew bw gb bz be f er u z c zv :=
  ⟨h.wr, h.buf, h.ulen, h.zz, h.own, h.ne⟩

/-- 'copy(b.buf[b.n:], p)'. -/
theorem run_copy_buf {w : World} {gb : Nat} {cur : Array Value} {u : List UInt8} (ty : TypeId) (hg : w.heap[gb]? = some (.cells cur 5 (0, 0))) (hs : cur.size = 4096) (ht : cur.toList.take u.length = Lib.byteCells u) (hu : u.length ≤ 4096)
    (gp o pc : Nat) (ps : List UInt8) (hsrc : Src w gp o ps) (dp : Option Addr) (dc k : Nat) (hk : k = Nat.min ps.length (4096 - u.length)) (hdp : 0 < k → dp = some ⟨gb, u.length, none⟩) :
    ∃ w', (Builtin.copy_ #[26, 26] ty #[.slice dp (4096 - u.length) dc, .slice (some ⟨gp, o, none⟩) ps.length pc]).run Ybad.prog w = .ok (.int .i64 k) w' ∧
      (∃ cur' : Array Value, w'.heap[gb]? = some (.cells cur' 5 (0, 0)) ∧ cur'.size = 4096 ∧ cur'.toList.take (u ++ ps.take k).length = Lib.byteCells (u ++ ps.take k)) ∧ Ch (fun j => j = gb) w w' := by
  by_cases h0 : k = 0
  · have hrun := run_copy_none (P := Ybad.prog) w 26 26 ty 5 dp (some ⟨gp, o, none⟩) (4096 - u.length) dc ps.length pc Ybad.underlying26 (by kernel_rfl) (by rw [← hk]; exact h0)
    refine ⟨w, by rw [hrun, h0]; rfl, ⟨cur, hg, hs, ?_⟩, Ch.refl _ _⟩
    rw [h0, List.take_zero, List.append_nil]
    exact ht
  · have hd := hdp (by omega)
    subst hd
    have hkl : k ≤ ps.length := by rw [hk]; exact Nat.min_le_left _ _
    have hkr : k ≤ 4096 - u.length := by rw [hk]; exact Nat.min_le_right _ _
    have hcl : (Lib.byteCells (ps.take k)).length = k := by rw [Lib.byteCells_length, List.length_take]; omega
    have hbt : Lib.byteCells (ps.take k) = (Lib.byteCells ps).take k := by simp [Lib.byteCells, List.map_take]
    have hrun := run_copy_row (P := Ybad.prog) w 26 26 ty 5 gb u.length (4096 - u.length) dc ⟨gp, o, none⟩ ps.length pc cur 5 (Lib.byteCells (ps.take k)) Ybad.underlying26 (by kernel_rfl) hg (by rw [hcl, ← hk]) (fun j v hj => by
      rw [hbt, List.getElem?_take] at hj
      split at hj
      · exact hsrc j v hj
      · cases hj) (by rw [hcl]; omega) (byteCells_one _)
    rw [hcl] at hrun
    refine ⟨_, hrun, ⟨_, setRow_heap w gb cur _ 5 _ hg, ?_, ?_⟩, ⟨rfl, rfl, rfl, by simp, fun j _ hj => setRow_other w gb j _ (fun e => hj e)⟩⟩
    · simp [hcl]
      omega
    · have e1 : (u ++ ps.take k).length = (cur.toList.take u.length ++ Lib.byteCells (ps.take k)).length := by simp [hcl]; omega
      rw [Lib.byteCells_append, e1, ← ht]
      exact List.take_left

/-- 'copy' as one step of a region that draws. -/
theorem step_copy {ops : Array Oper} {o : Oper} {a : Act} {w : World} {K : Act → World → Prop} {Q : Exit → Act → World → Prop} {E : Prop} (hgd : o.guard = none) (s x : Operand)
    (ho : o.op = .call { callee := .builtin .copy, args := #[s, x], argTypes := #[26, 26] }) (sv xv v : Value) (R : World → Prop) (hs : a.eval s = sv) (hx : a.eval x = xv)
    (hrun : ∃ w', (Builtin.copy_ #[26, 26] o.type #[sv, xv]).run Ybad.prog w = .ok v w' ∧ R w') (h : ∀ w', R w' → K (a.put o.dst v) w') :
    if Region.wanted o (yielded ops a.tmps) = true then Oper.wp Ybad.prog o a w K Q else E := by
  have hw : Region.wanted o (yielded ops a.tmps) = true := by simp [Region.wanted, hgd]
  rw [if_pos hw]
  obtain ⟨w', hr, h2⟩ := hrun
  unfold Oper.wp execOp
  simp only [ho, resolve, invoke, builtin, Sem.run_bind, Sem.run_pure, Result.andThen_ok, List.map_toArray, List.map_cons, List.map_nil, hs, hx, hr]
  exact h w' h2

/-- What a flush leaves. -/
def Flushed (f : Bool) (u z : List UInt8) (c : Nat) (er' : Bool) (u' z' : List UInt8) (c' : Nat) : Prop :=
  (f = false ∧ er' = false ∧ u' = [] ∧ z' = z ++ u ∧ c' = c + 1) ∨ (f = true ∧ er' = true ∧ u' = u ∧ z' = z ∧ c' = c + 1)

theorem flush_any {w : World} {bw gb bz be : Nat} {f : Bool} {u z : List UInt8} {c : Nat} {zv : Value} (h : Wr w bw gb bz be f false u z c zv) (h0 : u ≠ []) (hc : c ≤ 50000000) (hlim : z.length + u.length ≤ 50000000) :
    Calls Ybad.prog 16 #[.pointer (some ⟨bw, 0, none⟩)] w fun e w' => e = .returned (if f then erv be else .nilIface) ∧ ∃ er' u' z' c' zv', Wr w' bw gb bz be f er' u' z' c' zv' ∧ Flushed f u z c er' u' z' c' ∧ Ch (fun k => k = bw ∨ k = bz ∨ zv.ownBlock = some k) w w' ∧ Fresh w zv zv' := by
  cases f with
  | false =>
    refine (flush_ok h h0 hc hlim).mono ?_
    rintro e w' ⟨rfl, zv', h1, h2, h3⟩
    exact ⟨rfl, _, _, _, _, _, h1, .inl ⟨rfl, rfl, rfl, rfl, rfl⟩, h2, h3⟩
  | true =>
    refine (flush_fail h h0 hc).mono ?_
    rintro e w' ⟨rfl, h1, h2⟩
    exact ⟨rfl, _, _, _, _, _, h1, .inr ⟨rfl, rfl, rfl, rfl, rfl⟩, h2, fun k hk => .inl hk⟩

/-- The bytes that are still to be written: n − m of them. -/
def Left (w : World) (gp : Nat) (ps : List UInt8) (m o : Nat) : Prop := Src w gp o (ps.drop m)

theorem Src.ch {S : Nat → Prop} {w w' : World} {gp o : Nat} {ps : List UInt8} (h : Src w gp o ps) (hc : Ch S w w') (hs : ¬ S gp) (hlt : gp < w.heap.size) : Src w' gp o ps := by
  intro j x hj
  have := h j x hj
  rw [Lib.add_plain] at this ⊢
  rw [World.cell?_of_block (hc.block gp hlt hs), this]

theorem Src.drop {w : World} {gp o : Nat} {ps : List UInt8} (h : Src w gp o ps) (k : Nat) : Src w gp (o + k) (ps.drop k) := by
  intro j x hj
  have : (Lib.byteCells ps)[k + j]? = some x := by
    rw [← hj]
    simp [Lib.byteCells]
  have := h (k + j) x this
  rw [Lib.add_plain] at this ⊢
  rw [Nat.add_assoc]
  exact this

theorem Wr.putNil {w : World} {bw gb bz be : Nat} {f : Bool} {u z : List UInt8} {c : Nat} {zv : Value} (h : Wr w bw gb bz be f false u z c zv) :
    Wr (w.setCell ⟨bw, 0, none⟩ .nilIface) bw gb bz be f false u z c zv := by
  obtain ⟨a1, a2, a3, a4, a5⟩ := h.apart
  obtain ⟨cur, hg, hs, ht⟩ := h.buf
  exact ⟨heap_setCell_same w bw 0 _ 84 _ h.wr, ⟨cur, (Below.heap_setCell _ _ _ _ a1.symm).trans hg, hs, ht⟩, h.ulen, (Below.heap_setCell _ _ _ _ a2.symm).trans h.zz, h.own.setCell _ _ a4, h.ne⟩

/-- The copy into the buffer, and the new count. -/
theorem Wr.copied {w : World} {bw gb bz be : Nat} {f er : Bool} {u z : List UInt8} {c : Nat} {zv : Value} (h : Wr w bw gb bz be f er u z c zv) (gp o pc : Nat) (ps : List UInt8) (hsrc : Src w gp o ps) (dp : Option Addr) (dc k : Nat) (hk : k = Nat.min ps.length (4096 - u.length)) (hdp : 0 < k → dp = some ⟨gb, u.length, none⟩) (q : Nat) (ty : TypeId) :
    ∃ w', (Builtin.copy_ #[26, 26] ty #[.slice dp (4096 - u.length) dc, .slice (some ⟨gp, o, none⟩) ps.length pc]).run Ybad.prog (w.drewN q) = .ok (.int .i64 k) w' ∧ (w'.cell? ⟨bw, 2, none⟩ = some (.int .i64 u.length) ∧ w'.frozen? ⟨bw, 2, none⟩ = false) ∧
      Wr (w'.setCell ⟨bw, 2, none⟩ (.int .i64 ((u.length : Int) + (k : Int)))) bw gb bz be f er (u ++ ps.take k) z c zv ∧ Ch (fun j => j = gb) w w' := by
  obtain ⟨a1, a2, a3, a4, a5⟩ := h.apart
  obtain ⟨cur, hg, hs, ht⟩ := h.buf
  obtain ⟨w', hr, ⟨cur', h1, h2, h3⟩, hc⟩ := run_copy_buf (w := w.drewN q) ty hg hs ht h.ulen gp o pc ps hsrc dp dc k hk hdp
  have hc' : Ch (fun j => j = gb) w w' := ((Ch.refl (fun j => j = gb) w).drewN q).trans hc (fun _ _ h => h)
  have hkl : k ≤ ps.length := by rw [hk]; exact Nat.min_le_left _ _
  have hkr : k ≤ 4096 - u.length := by rw [hk]; exact Nat.min_le_right _ _
  have hu := h.ulen
  have e0 : w'.heap[bw]? = some (.cells #[if er then erv be else .nilIface, .slice (some ⟨gb, 0, none⟩) 4096 4096, .int .i64 u.length, .iface 29 (.pointer (some ⟨bz, 0, none⟩))] 84 (0, 0)) := (hc'.block bw (Array.getElem?_eq_some_iff.1 h.wr).1 a1).trans h.wr
  have el : ((u ++ ps.take k).length : Int) = (u.length : Int) + (k : Int) := by simp; omega
  refine ⟨w', hr, ⟨by rw [cell_of_row w' bw _ _ _ _ e0]; rfl, frozen_of_row w' bw _ _ _ e0⟩, ?_, hc'⟩
  rw [← el]
  exact ⟨heap_setCell_same w' bw 2 _ 84 _ e0, ⟨cur', (Below.heap_setCell _ _ _ _ a1.symm).trans h1, h2, h3⟩, by simp; omega, (Below.heap_setCell _ _ _ _ a2.symm).trans ((hc'.block bz (Array.getElem?_eq_some_iff.1 h.zz).1 a3.symm).trans h.zz), (h.own.ch hc' (fun j hj e => h.ne (by rw [← e]; exact hj))).setCell _ _ a4, h.ne⟩

theorem Inv.flush {f er' : Bool} {D0 u1 z1 u' z' t D1 D2 : List UInt8} {c1 c' : Nat} (h : Inv f D0 false u1 z1 c1) (fl : Flushed f (u1 ++ t) z1 c1 er' u' z' c') (ht : u1 ++ t ≠ []) (h1 : D1 = D0 ++ t) (h2 : D2 ≠ []) : Inv f (if er' then D2 else D1) er' u' z' c' := by
  have htl : 0 < (u1 ++ t).length := by
    rcases hq : u1 ++ t with _ | ⟨x, r⟩
    · exact absurd hq ht
    · simp
  rcases fl with ⟨rfl, rfl, rfl, rfl, rfl⟩ | ⟨rfl, rfl, rfl, rfl, rfl⟩
  · rcases h with ⟨_, _, e, e2, e3⟩ | ⟨e, _⟩ | ⟨e, _⟩
    · refine .inl ⟨rfl, rfl, ?_, ?_, fun _ => by omega⟩
      · simp [h1, ← e]
      · simp at htl ⊢
        omega
    · cases e
    · cases e
  · rcases h with ⟨e, _⟩ | ⟨_, _, e, e2, e3⟩ | ⟨_, e, _⟩
    · cases e
    · exact .inr (.inr ⟨rfl, rfl, e, by simpa using h2, by omega⟩)
    · cases e

theorem Inv.direct_ok {D0 z1 t : List UInt8} {c1 : Nat} (h : Inv false D0 false [] z1 c1) (ht : t ≠ []) : Inv false (D0 ++ t) false [] (z1 ++ t) (c1 + 1) := by
  have htl : 0 < t.length := by
    rcases t with _ | ⟨x, r⟩
    · exact absurd rfl ht
    · simp
  rcases h with ⟨_, _, e, e2, e3⟩ | ⟨e, _⟩ | ⟨e, _⟩
  · refine .inl ⟨rfl, rfl, ?_, ?_, fun _ => by omega⟩
    · simp [← e]
    · simp
      omega
  · cases e
  · cases e

theorem Inv.direct_fail {D0 z1 D2 : List UInt8} {c1 : Nat} (h : Inv true D0 false [] z1 c1) (h2 : D2 ≠ []) : Inv true D2 true [] z1 (c1 + 1) := by
  rcases h with ⟨e, _⟩ | ⟨_, _, e, e2, e3⟩ | ⟨_, e, _⟩
  · cases e
  · exact .inr (.inr ⟨rfl, rfl, e, h2, by omega⟩)
  · cases e

theorem Inv.more {f : Bool} {D0 u1 z1 t : List UInt8} {c1 : Nat} (h : Inv f D0 false u1 z1 c1) : Inv f (D0 ++ t) false (u1 ++ t) z1 c1 := by
  rcases h with ⟨r, _, e, e2, e3⟩ | ⟨r, _, e, e2, e3⟩ | ⟨_, e, _⟩
  · exact .inl ⟨r, rfl, by simp [← e], e2, e3⟩
  · exact .inr (.inl ⟨r, rfl, e, by simp [e2], e3⟩)
  · cases e

set_option maxHeartbeats 8000000 in
set_option maxRecDepth 100000 in
/-- Write: whatever the writer does, what has been handed over grows by p. -/
theorem bwrite {w : World} {bw gb bz be : Nat} {f er : Bool} {u z D : List UInt8} {c : Nat} {zv : Value} (h : Wr w bw gb bz be f er u z c zv) (hinv : Inv f D er u z c) (gp cap : Nat) (ps : List UInt8) (hsrc : Src w gp 0 ps) (hcap : ps.length ≤ cap) (h0 : ps ≠ [])
    (hgl : gp < w.heap.size) (hg : gp ≠ bw ∧ gp ≠ gb ∧ gp ≠ bz ∧ zv.ownBlock ≠ some gp) (hlim : D.length + ps.length ≤ 40000000) :
    Calls Ybad.prog 15 #[.pointer (some ⟨bw, 0, none⟩), .slice (some ⟨gp, 0, none⟩) ps.length cap] w fun e w' => (∃ r1 r2, e = .returned (.tuple #[r1, r2])) ∧
      ∃ er' u' z' c' zv', Wr w' bw gb bz be f er' u' z' c' zv' ∧ Inv f (D ++ ps) er' u' z' c' ∧ Ch (fun k => k = bw ∨ k = gb ∨ k = bz ∨ zv.ownBlock = some k) w w' ∧ Fresh w zv zv' := by
  have hm := method_write
  have H0 : Hid (Wr w bw gb bz be f er u z c zv ∧ Inv f D er u z c ∧ Src w gp 0 ps) := ⟨h, hinv, hsrc⟩
  have HP : Hid (gp ≠ bw ∧ gp ≠ gb ∧ gp ≠ bz ∧ zv.ownBlock ≠ some gp ∧ gp < w.heap.size) := ⟨hg.1, hg.2.1, hg.2.2.1, hg.2.2.2, hgl⟩
  clear h hinv hsrc hg hgl
  go_enter Ybad.func15, Ybad.ntmps15
  go_wp2_with fail
  go_loopg [1, 4, 6] (3 * ps.length + 2) (fun k s1 s4 s6 wr => ∃ (m o pc : Nat) (er1 : Bool) (u1 z1 : List UInt8) (c1 : Nat) (zv1 : Value), s1 = .slice (some ⟨gp, o, none⟩) (ps.length - m) pc ∧ s4 = .int .i64 (m : Int) ∧ m ≤ ps.length ∧ ps.length - m ≤ pc ∧
      Hid (3 * (ps.length - m) + (if u1 = [] then 0 else 1) + (if er1 then 0 else 1) ≤ k ∧ Wr wr bw gb bz be f er1 u1 z1 c1 zv1 ∧ Src wr gp o (ps.drop m) ∧ Inv f (if er1 then D ++ ps else D ++ ps.take m) er1 u1 z1 c1 ∧ Ch (fun k => k = bw ∨ k = gb ∨ k = bz ∨ zv.ownBlock = some k) w wr ∧ Fresh w zv zv1))
  case atStart =>
    refine ⟨0, 0, cap, er, u, z, c, zv, rfl, rfl, by omega, by omega, ?_, H0.out.1, H0.out.2.2, ?_, Ch.refl _ _, fun k hk => .inl hk⟩
    · have : (if u = [] then 0 else 1) ≤ 1 := by split <;> omega
      have : (if er then 0 else 1) ≤ 1 := by split <;> omega
      omega
    · have := H0.out.2.1
      cases er with
      | false => simpa using this
      | true =>
        rcases this with ⟨_, e, _⟩ | ⟨_, e, _⟩ | ⟨a1, a2, a3, a4, a5⟩
        · cases e
        · cases e
        · exact .inr (.inr ⟨a1, a2, a3, by simp [a4], a5⟩)
  case round =>
    obtain ⟨m, o, pc, er1, u1, z1, c1, zv1, rfl, rfl, hmn, hpc, HR⟩ := hrel
    obtain ⟨g1, g2, g3, g4, g5⟩ := HR.out.2.1.facts
    have hu := HR.out.2.1.ulen
    cases er1 with
    | true =>
      simp only [if_true] at g1
      have FIN : Hid (∀ q1 q2, Wr ((wr.drewN q1).drewN q2) bw gb bz be f true u1 z1 c1 zv1 ∧ Inv f (D ++ ps) true u1 z1 c1 ∧ Ch (fun k => k = bw ∨ k = gb ∨ k = bz ∨ zv.ownBlock = some k) w ((wr.drewN q1).drewN q2) ∧ Fresh w zv zv1) :=
        fun q1 q2 => ⟨(HR.out.2.1.drewN q1).drewN q2, by simpa using HR.out.2.2.2.1, (HR.out.2.2.2.2.1.drewN q1).drewN q2, HR.out.2.2.2.2.2⟩
      by_cases hgt : (4096 : Int) - u1.length < ((ps.length - m : Nat) : Int)
      · go_wp2_with fail
        refine (available HR.out.2.1).mono ?_
        rintro e w1 ⟨rfl, q, rfl⟩
        go_wp2
        go_quiet (fail)
        go_wp2
        go_ret2
        exact ⟨⟨_, _, rfl⟩, _, _, _, _, _, FIN.out q nq⟩
      · go_wp2_with fail
        refine (available HR.out.2.1).mono ?_
        rintro e w1 ⟨rfl, q, rfl⟩
        go_wp2
        go_quiet (fail)
        go_wp2
        go_ret2
        exact ⟨⟨_, _, rfl⟩, _, _, _, _, _, FIN.out q nq⟩
    | false =>
      simp only [Bool.false_eq_true, if_false] at g1
      have hr0 := HR.out.2.2.2.1
      simp only [Bool.false_eq_true, if_false] at hr0
      have hpl : (ps.drop m).length = ps.length - m := by simp
      obtain ⟨L, hL⟩ : ∃ L, ps.length - m = L := ⟨_, rfl⟩
      have hcz : c1 ≤ 40000000 ∧ z1.length + u1.length + (ps.length - m) ≤ 40000000 := by
        have hl2 : (D ++ ps.take m).length = D.length + m := by simp [Nat.min_eq_left hmn]
        rcases hr0 with ⟨_, _, e, e2, _⟩ | ⟨_, _, e, e2, e3⟩ | ⟨_, e, _⟩
        · have e4 := congrArg List.length e
          rw [hl2] at e4
          simp at e4
          omega
        · rw [e, e3, e2, hl2]
          simp
          omega
        · cases e
      rw [hL] at hpl hpc hcz
      have HW := HR.out.2.1
      have KK := HR.out.2.2.2.2
      have SR := HR.out.2.2.1
      have A := HW.apart
      have N4 : zv1.ownBlock ≠ some gp := fun e => by
        rcases KK.2 gp e with r | r
        · exact HP.out.2.2.2.1 r
        · have := HP.out.2.2.2.2
          omega
      by_cases hgt : (4096 : Int) - u1.length < (L : Int)
      · by_cases hu1 : u1 = []
        · subst hu1
          have hrest : ps.drop m ≠ [] := fun e => by
            have := congrArg List.length e
            rw [hpl] at this
            simp at this hgt
            omega
          have PA : Hid (∃ A : Nat, (if pc = L then (some ⟨gp, o, none⟩ : Option Addr) else some ⟨gp, o + L, none⟩) = some ⟨gp, A, none⟩) := by
            by_cases e : pc = L
            · exact ⟨o, by rw [if_pos e]⟩
            · exact ⟨o + L, by rw [if_neg e]⟩
          obtain ⟨A2, hA2⟩ := PA.out
          cases f with
          | false =>
            have ZW : Hid (∀ q, Calls Ybad.prog 57 #[.pointer (some ⟨bz, 0, none⟩), .slice (some ⟨gp, o, none⟩) L pc] (wr.drewN q) fun e w' => e = .returned (.tuple #[.int .i64 L, .nilIface]) ∧ ∃ zv', (w'.cell? ⟨bw, 0, none⟩ = some .nilIface ∧ w'.frozen? ⟨bw, 0, none⟩ = false) ∧
                Wr (w'.setCell ⟨bw, 0, none⟩ .nilIface) bw gb bz be false false [] (z1 ++ ps.drop m) (c1 + 1) zv' ∧ Ch (fun k => k = bw ∨ k = gb ∨ k = bz ∨ zv.ownBlock = some k) w (w'.setCell ⟨bw, 0, none⟩ .nilIface) ∧ Fresh w zv zv') := by
              intro q
              have := zwrite_ok (w := wr.drewN q) HW.zz HW.own gp o pc (ps.drop m) SR HP.out.2.2.1 (by omega) (by rw [hpl]; simp at hcz; omega)
              rw [hpl] at this
              refine this.mono ?_
              rintro e w' ⟨rfl, zv', y1, y2, y3, y4⟩
              have y3' : Ch (fun k => k = bz ∨ zv1.ownBlock = some k) wr w' := ((Ch.refl (fun k => k = bz ∨ zv1.ownBlock = some k) wr).drewN q).trans y3 (fun _ _ h => h)
              have hW := HW.wrote y3' y1 y2 y4
              have ff := hW.facts
              refine ⟨rfl, zv', ⟨ff.1, ff.2.2.2.2 0⟩, hW.putNil, ?_, KK.2.trans KK.1.size (fun k hk => y4 k hk)⟩
              refine Ch.setCell ?_ _ _ (fun _ => .inl rfl)
              refine KK.1.trans y3' (fun x hx h => ?_)
              rcases h with h | h
              · exact .inr (.inr (.inl h))
              · rcases KK.2 x h with r | r
                · exact .inr (.inr (.inr r))
                · omega
            have INV2 : Hid (Inv false (D ++ ps) false [] (z1 ++ ps.drop m) (c1 + 1)) := by
              have := hr0.direct_ok hrest
              rwa [List.append_assoc, List.take_append_drop] at this
            have MM : Hid (3 * L + 1 ≤ gk) := by have := HR.out.1; rw [hL] at this; simp at this; exact this
            have LM : Hid (ps.length = m + L ∧ 0 < L) := ⟨by omega, by simp at hgt; omega⟩
            clear hr0 SR KK N4 A hpl hrest PA HW
            have HW := HR.out.2.1
            rw [hL]
            clear hL
            go_wp2_with fail
            refine (available HW).mono ?_
            rintro e w1 ⟨rfl, q, rfl⟩
            go_wp2_with fail
            refine (buffered (HW.drewN q)).mono ?_
            rintro e w1 ⟨rfl, rfl⟩
            go_wp2_with fail
            refine (ZW.out _).mono ?_
            rintro e w2 ⟨rfl, zv', ⟨k1, k2⟩, k3⟩
            have K3 := Lib.hid k3
            clear k3
            go_wp2
            go_roundg 1
            case measure => have h1 := MM.out; have h2 := LM.out.2; omega
            case rel =>
              refine ⟨m + L, A2, pc - L, false, [], z1 ++ ps.drop m, c1 + 1, zv', ?_, by simp, by have := LM.out.1; omega, by have := LM.out.1; omega, ?_, K3.out.1, ?_, ?_, K3.out.2⟩
              · rw [show ps.length - (m + L) = 0 by have := LM.out.1; omega]
              · have := LM.out.1
                simp
                omega
              · rw [List.drop_of_length_le (by have := LM.out.1; omega)]
                intro j x hj
                simp [Lib.byteCells] at hj
              · have := INV2.out
                simp only [Bool.false_eq_true, if_false]
                rw [List.take_of_length_le (by have := LM.out.1; omega)]
                exact this
          | true =>
            have ZW : Hid (∀ q, Calls Ybad.prog 57 #[.pointer (some ⟨bz, 0, none⟩), .slice (some ⟨gp, o, none⟩) L pc] (wr.drewN q) fun e w' => e = .returned (.tuple #[.int .i64 0, erv be]) ∧ (w'.cell? ⟨bw, 0, none⟩ = some .nilIface ∧ w'.frozen? ⟨bw, 0, none⟩ = false) ∧
                Wr (w'.setCell ⟨bw, 0, none⟩ (erv be)) bw gb bz be true true [] z1 (c1 + 1) zv1 ∧ Ch (fun k => k = bw ∨ k = gb ∨ k = bz ∨ zv.ownBlock = some k) w (w'.setCell ⟨bw, 0, none⟩ (erv be)) ∧ Src (w'.setCell ⟨bw, 0, none⟩ (erv be)) gp o (ps.drop m)) := by
              intro q
              refine (zwrite_fail (w := wr.drewN q) HW.zz _ (by omega)).mono ?_
              rintro e w' ⟨rfl, y1, y3⟩
              have y3' : Ch (fun k => k = bz) wr w' := ((Ch.refl (fun k => k = bz) wr).drewN q).trans y3 (fun _ _ h => h)
              have hW := HW.failed y3' y1
              have ff := hW.facts
              have y4 : Ch (fun k => k = bw ∨ k = bz) wr (w'.setCell ⟨bw, 0, none⟩ (erv be)) := (y3'.mono (fun _ _ h => .inr h)).setCell _ _ (fun _ => .inl rfl)
              refine ⟨rfl, ⟨ff.1, ff.2.2.2.2 0⟩, hW.putE, ?_, ?_⟩
              · exact KK.1.trans y4 (fun x hx h => h.elim .inl (fun h => .inr (.inr (.inl h))))
              · exact SR.ch y4 (fun h => h.elim HP.out.1 HP.out.2.2.1) (Nat.lt_of_lt_of_le HP.out.2.2.2.2 KK.1.size)
            have INV2 : Hid (Inv true (D ++ ps) true [] z1 (c1 + 1) ∧ Fresh w zv zv1) := ⟨hr0.direct_fail (by simp [h0]), KK.2⟩
            have MM : Hid (3 * L + 1 ≤ gk) := by have := HR.out.1; rw [hL] at this; simp at this; exact this
            have LM : Hid (ps.length = m + L ∧ 0 < L) := ⟨by omega, by simp at hgt; omega⟩
            have hpc0 : ¬ (pc = 0) := by simp at hgt; omega
            clear hr0 SR KK N4 A hpl hrest PA HW hA2
            have HW := HR.out.2.1
            rw [hL]
            clear hL
            go_wp2_with fail
            refine (available HW).mono ?_
            rintro e w1 ⟨rfl, q, rfl⟩
            go_wp2_with fail
            refine (buffered (HW.drewN q)).mono ?_
            rintro e w1 ⟨rfl, rfl⟩
            go_wp2_with fail
            refine (ZW.out _).mono ?_
            rintro e w2 ⟨rfl, ⟨k1, k2⟩, k3⟩
            have K3 := Lib.hid k3
            clear k3
            go_wp2
            go_roundg (3 * L)
            case measure => have h1 := MM.out; omega
            case rel =>
              refine ⟨m, o, pc, true, [], z1, c1 + 1, zv1, ?_, by simp, by have := LM.out.1; omega, by have := LM.out.1; omega, ?_, K3.out.1, K3.out.2.2, ?_, K3.out.2.1, INV2.out.2⟩
              · rw [show ps.length - m = L by have := LM.out.1; omega]
              · have := LM.out.1
                simp
                omega
              · simpa using INV2.out.1
        · have hk : ∃ k, 4096 - u1.length = k ∧ k < L := ⟨_, rfl, by omega⟩
          obtain ⟨k, hk1, hk2⟩ := hk
          have hmin : k = Nat.min (ps.drop m).length (4096 - u1.length) := by
            rw [hpl, hk1]
            exact (Nat.min_eq_right (by omega)).symm
          have hx : ∃ dp : Option Addr, (if 4096 = u1.length then (some ⟨gb, 0, none⟩ : Option Addr) else some ⟨gb, u1.length, none⟩) = dp ∧ (0 < k → dp = some ⟨gb, u1.length, none⟩) := ⟨_, rfl, fun h => by rw [if_neg (by omega)]⟩
          obtain ⟨dp, hdp, hdp2⟩ := hx
          have hne2 : u1 ++ (ps.drop m).take k ≠ [] := by simp [hu1]
          have hl2 : (u1 ++ (ps.drop m).take k).length = 4096 := by simp [hpl]; omega
          have CP : Hid (∀ q ty, ∃ w', (Builtin.copy_ #[26, 26] ty #[.slice dp k k, .slice (some ⟨gp, o, none⟩) L pc]).run Ybad.prog (wr.drewN q) = .ok (.int .i64 k) w' ∧ ((w'.cell? ⟨bw, 2, none⟩ = some (.int .i64 u1.length) ∧ w'.frozen? ⟨bw, 2, none⟩ = false) ∧
              Calls Ybad.prog 16 #[.pointer (some ⟨bw, 0, none⟩)] (w'.setCell ⟨bw, 2, none⟩ (.int .i64 ((u1.length : Int) + (k : Int)))) fun e w2 => e = .returned (if f then erv be else .nilIface) ∧ ∃ er' u' z' c' zv', Wr w2 bw gb bz be f er' u' z' c' zv' ∧ Src w2 gp (o + k) (ps.drop (m + k)) ∧ Inv f (if er' then D ++ ps else D ++ ps.take (m + k)) er' u' z' c' ∧ Ch (fun k => k = bw ∨ k = gb ∨ k = bz ∨ zv.ownBlock = some k) w w2 ∧ Fresh w zv zv' ∧ 3 * (L - k) + (if u' = [] then 0 else 1) + (if er' then 0 else 1) < gk)) := by
            intro q ty
            obtain ⟨w', r1, r2, r3, r4⟩ := HW.copied gp o pc (ps.drop m) SR dp k k hmin hdp2 q ty
            rw [hpl, hk1] at r1
            have r5 : Ch (fun j => j = bw ∨ j = gb) wr (w'.setCell ⟨bw, 2, none⟩ (.int .i64 ((u1.length : Int) + (k : Int)))) := (r4.mono (fun _ _ h => .inr h)).setCell _ _ (fun _ => .inl rfl)
            have glt : gp < wr.heap.size := Nat.lt_of_lt_of_le HP.out.2.2.2.2 KK.1.size
            have s1 : Src (w'.setCell ⟨bw, 2, none⟩ (.int .i64 ((u1.length : Int) + (k : Int)))) gp (o + k) (ps.drop (m + k)) := by
              have := (SR.drop k).ch r5 (fun h => h.elim HP.out.1 HP.out.2.1) glt
              rwa [List.drop_drop] at this
            refine ⟨w', r1, r2, (flush_any r3 hne2 (by omega) (by rw [hl2]; omega)).mono ?_⟩
            rintro e w2 ⟨rfl, er', u', z', c', zv', y1, y2, y3, y4⟩
            have r6 : Ch (fun k => k = bw ∨ k = gb ∨ k = bz ∨ zv1.ownBlock = some k) wr w2 := (r5.mono (fun _ _ h => h.elim .inl (fun h => .inr (.inl h)))).trans y3 (fun _ _ h => h.elim .inl (fun h => .inr (.inr h)))
            refine ⟨rfl, er', u', z', c', zv', y1, ?_, ?_, ?_, ?_, ?_⟩
            · exact s1.ch y3 (fun h => by
                rcases h with h | h | h
                · exact HP.out.1 h
                · exact HP.out.2.2.1 h
                · exact N4 h) (Nat.lt_of_lt_of_le glt r5.size)
            · refine hr0.flush y2 hne2 ?_ (by simp [h0])
              rw [List.append_assoc, ← List.take_add]
            · refine KK.1.trans r6 (fun x hx h => ?_)
              rcases h with h | h | h | h
              · exact .inl h
              · exact .inr (.inl h)
              · exact .inr (.inr (.inl h))
              · rcases KK.2 x h with r | r
                · exact .inr (.inr (.inr r))
                · omega
            · exact KK.2.trans KK.1.size (y4.low r5.size)
            · have hM := HR.out.1
              rw [hL, if_neg hu1] at hM
              simp only [Bool.false_eq_true, if_false] at hM
              rcases y2 with ⟨_, rfl, rfl, _⟩ | ⟨_, rfl, rfl, _⟩
              · simp
                omega
              · rw [if_neg hne2]
                simp
                omega
          have LM : Hid (ps.length = m + L ∧ 0 < L) := ⟨by omega, by omega⟩
          clear hr0 SR KK N4 A hpl HW hmin hdp2 hne2 hl2
          have HW := HR.out.2.1
          have hpk : ¬ (pc = k) := by omega
          have hul : ((u1.length : Nat) : Int) ≤ 4096 := by omega
          have hu1l : ((u1.length : Int) == 0) = false := by
            rcases u1 with _ | ⟨x, r⟩
            · exact absurd rfl hu1
            · simp; omega
          rw [hL]
          clear hL
          go_wp2_with fail
          refine (available HW).mono ?_
          rintro e w1 ⟨rfl, q, rfl⟩
          go_wp2_with fail
          refine (buffered (HW.drewN q)).mono ?_
          rintro e w1 ⟨rfl, rfl⟩
          obtain ⟨W2, hcp, ⟨k1, k2⟩, k3⟩ := CP.out (q + 1) 3
          have K3 := Lib.hid k3
          clear k3
          go_wp2_with fail
          go_region
          all_goals (
            go_wp2_with fail
            refine K3.out.mono ?_
            rintro e w3 ⟨rfl, er', u', z', c', zv', FW⟩
            have F := Lib.hid FW
            clear FW
            go_wp2
            all_goals (
              go_roundg (3 * (L - k) + (if u' = [] then 0 else 1) + (if er' then 0 else 1))
              case measure => exact F.out.2.2.2.2.2
              case rel =>
                refine ⟨m + k, o + k, pc - k, er', u', z', c', zv', ?_, by simp, by have := LM.out.1; omega, by have := LM.out.1; omega, ?_, F.out.1, F.out.2.1, F.out.2.2.1, F.out.2.2.2.1, F.out.2.2.2.2.1⟩
                · rw [show ps.length - (m + k) = L - k by have := LM.out.1; omega]
                · rw [show ps.length - (m + k) = L - k by have := LM.out.1; omega]
                  exact Nat.le_refl _))
      · have hmin : L = Nat.min (ps.drop m).length (4096 - u1.length) := by
          rw [hpl]
          exact (Nat.min_eq_left (by omega)).symm
        have hx : ∃ dp : Option Addr, (if 4096 = u1.length then (some ⟨gb, 0, none⟩ : Option Addr) else some ⟨gb, u1.length, none⟩) = dp ∧ (0 < L → dp = some ⟨gb, u1.length, none⟩) := ⟨_, rfl, fun h => by rw [if_neg (by omega)]⟩
        obtain ⟨dp, hdp, hdp2⟩ := hx
        have CP : Hid (∀ q ty, ∃ w', (Builtin.copy_ #[26, 26] ty #[.slice dp (4096 - u1.length) (4096 - u1.length), .slice (some ⟨gp, o, none⟩) L pc]).run Ybad.prog (wr.drewN q) = .ok (.int .i64 L) w' ∧ ((w'.cell? ⟨bw, 2, none⟩ = some (.int .i64 u1.length) ∧ w'.frozen? ⟨bw, 2, none⟩ = false) ∧
            Wr (w'.setCell ⟨bw, 2, none⟩ (.int .i64 ((u1.length : Int) + (L : Int)))) bw gb bz be f false (u1 ++ ps.drop m) z1 c1 zv1 ∧ Ch (fun k => k = bw ∨ k = gb ∨ k = bz ∨ zv.ownBlock = some k) w (w'.setCell ⟨bw, 2, none⟩ (.int .i64 ((u1.length : Int) + (L : Int)))))) := by
          intro q ty
          obtain ⟨w', r1, r2, r3, r4⟩ := HW.copied gp o pc (ps.drop m) SR dp (4096 - u1.length) L hmin hdp2 q ty
          rw [hpl] at r1
          rw [List.take_of_length_le (by omega)] at r3
          exact ⟨w', r1, r2, r3, (KK.1.trans r4 (fun _ _ h => .inr (.inl h))).setCell _ _ (fun _ => .inl rfl)⟩
        have INV2 : Hid (Inv f (D ++ ps) false (u1 ++ ps.drop m) z1 c1 ∧ Fresh w zv zv1) := by
          refine ⟨?_, KK.2⟩
          have := hr0.more (t := ps.drop m)
          rwa [List.append_assoc, List.take_append_drop] at this
        clear hr0 hmin SR KK N4 A hdp2 hpl
        rw [hL]
        clear hL
        have hui : (u1.length : Int) ≤ 4096 := by omega
        go_wp2_with fail
        refine (available HW).mono ?_
        rintro e w1 ⟨rfl, q, rfl⟩
        obtain ⟨W2, hcp, ⟨k1, k2⟩, k3⟩ := CP.out (q + 1) 3
        have K3 := Lib.hid k3
        clear k3
        go_wp2
        go_region
        all_goals (go_wp2; go_ret2; exact ⟨⟨_, _, rfl⟩, false, _, _, _, _, K3.out.1, INV2.out.1, K3.out.2, INV2.out.2⟩)
end Go.Proofs.YbulkdeicDoor
