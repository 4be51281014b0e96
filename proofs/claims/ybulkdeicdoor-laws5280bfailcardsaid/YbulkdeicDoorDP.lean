/-
  OWN WORK. (*Map).WriteDP over the test's own writer.
-/
import Derived.Test.YbulkdeicDoorLp
namespace Go.Proofs.YbulkdeicDoor
open Go.RowKit

/-- What WriteDP leaves: nothing but the writer's block, the texts' row (read by String) and new blocks have turned. -/
def DpPost (w : World) (bz be : Nat) (f : Bool) (bu : Value) (D : List UInt8) (e : Ending) (w' : World) : Prop :=
  ∃ (zv : Value) (z : List UInt8) (c : Nat), e = .returned (if f = true ∧ D ≠ [] then erv be else .nilIface) ∧ w'.heap[bz]? = some (.cells #[zv, .int .i64 c, if f then erv be else .nilIface] 33 (0, 0)) ∧ Own w' 5 1 zv z.length (Lib.byteCells z) ∧ c ≤ 50000000 ∧
    (0 < c ↔ D ≠ []) ∧ z = (if f then [] else D) ∧ Ch (fun k => k = bz ∨ bu.ownBlock = some k) w w'

theorem Ids.late {w wr : World} {b gf cf ge ce N bz : Nat} {ends : List Nat} {ad bu dp : Value} {l : List UInt8} {cz : Array Value} (h : Ids w b gf cf ge ce N ends ad bu dp l) (hz : w.heap[bz]? = some (.cells cz 33 (0, 0))) (hc : Ch (fun k => k = bz ∨ bu.ownBlock = some k) w wr) (hb : Bytes wr bu l) : Ids wr b gf cf ge ce N ends ad bu dp l := by
  obtain ⟨c1, h1, h2⟩ := h.first
  obtain ⟨c3, h3, h4⟩ := h.row
  have hm := h.map
  have n1 : ¬ (b = bz ∨ bu.ownBlock = some b) := by
    unfold MapAt at hm
    rintro (e | e)
    · subst e
      rw [hm] at hz
      cases hz
    · obtain ⟨c, fz, hx⟩ := h.bytes.at b e
      rw [hm] at hx
      cases hx
  have n2 : ¬ (gf = bz ∨ bu.ownBlock = some gf) := by
    rintro (e | e)
    · subst e
      rw [h1] at hz
      cases hz
    · obtain ⟨c, fz, hx⟩ := h.bytes.at gf e
      rw [h1] at hx
      cases hx
  have n3 : ¬ (ge = bz ∨ bu.ownBlock = some ge) := by
    rintro (e | e)
    · subst e
      rw [h3] at hz
      cases hz
    · obtain ⟨c, fz, hx⟩ := h.bytes.at ge e
      rw [h3] at hx
      cases hx
  exact ⟨h.map.ch hc n1, ⟨c1, (hc.block gf (Array.getElem?_eq_some_iff.1 h1).1 n2).trans h1, h2⟩, ⟨c3, (hc.block ge (Array.getElem?_eq_some_iff.1 h3).1 n3).trans h3, h4⟩, h.len, hb, h.ne⟩

/-- Off what the build leaves. -/
theorem Dp.ids {w0 w : World} {bm gf : Nat} {ids : List ByteArray} {rs : List (Nat × Int)} {iv en ad bu dp wv : Value} {W : List UInt8} (h : Dp w0 w bm gf ids rs iv en ad bu dp wv W) (hi : flat ids ≠ []) (hi0 : ids ≠ []) :
    ∃ ge ce, en = .slice (some ⟨ge, 0, none⟩) ids.length ce ∧ Ids w bm gf 1 ge ce ids.length (endsOf ids) ad bu dp (flat ids) := by
  have hl : 0 < ids.length := by
    rcases ids with _ | ⟨x, r⟩
    · exact absurd rfl hi0
    · simp
  obtain ⟨ge, ce, rfl, _⟩ := h.bl.ends.some_of hl
  obtain ⟨cur, hg, hs, hn, ht⟩ := h.bl.ends.block
  refine ⟨ge, ce, rfl, h.bl.map, ⟨_, h.bl.first, rfl⟩, ⟨cur, hg, ?_⟩, by simp [endsOf], ?_, hi⟩
  · intro j e he
    have hj : j < ids.length := by
      have := (List.getElem?_eq_some_iff.1 he).1
      simpa [endsOf] using this
    rw [endsOf_get hj] at he
    cases he
    have : (cur.toList.take (ids.length * 1))[j]? = some (Value.int .u32 (((flat (ids.take (j + 1))).length : Nat) : Int)) := by
      rw [ht]
      simp [endCells, hj]
    rw [List.getElem?_take, if_pos (by omega)] at this
    simpa using this
  · have := h.bl.bytes
    rw [List.take_of_length_le (Nat.le_refl _)] at this
    exact Bytes.of this rfl hi

theorem ne_nil_len {l : List UInt8} (h : l ≠ []) : 0 < l.length := by
  rcases l with _ | ⟨x, r⟩
  · exact absurd rfl h
  · simp

/-- The last Flush. -/
theorem flush_end {w wr : World} {bw gb bz be : Nat} {f er : Bool} {D u z : List UInt8} {c : Nat} {zv lv bu : Value} {l T : List UInt8} (h : Lp w wr bw gb bz be f er D u z c zv lv bu l T) (hD : D.length ≤ 40000000) :
    Calls Ybad.prog 16 #[.pointer (some ⟨bw, 0, none⟩)] wr (DpPost w bz be f bu D) := by
  have hch : ∀ {w' : World}, Ch (fun k => k = bw ∨ k = bz ∨ zv.ownBlock = some k) wr w' → Ch (fun k => k = bz ∨ bu.ownBlock = some k) w w' := fun hc => h.ch.trans hc (fun x hx e => by
    rcases e with e | e | e
    · have := h.bwN; omega
    · exact .inl e
    · have := h.zvN x e; omega)
  rcases h.inv with ⟨rfl, rfl, e1, e2, e3⟩ | ⟨rfl, rfl, rfl, rfl, rfl⟩ | ⟨rfl, rfl, rfl, e1, rfl⟩
  · have hl := congrArg List.length e1
    rw [List.length_append] at hl
    by_cases hu : u = []
    · subst hu
      refine (flush_none h.wrt).mono ?_
      rintro e w' ⟨rfl, rfl⟩
      rw [List.append_nil] at e1
      subst e1
      refine ⟨zv, z, c, by simp, h.wrt.zz, h.wrt.own, by omega, ⟨fun h0 h1 => ?_, e3⟩, rfl, h.ch⟩
      rw [h1] at e2
      simp at e2
      omega
    · refine (flush_ok h.wrt hu (by omega) (by omega)).mono ?_
      rintro e w' ⟨rfl, zv', y1, y2, y3⟩
      have hu0 := ne_nil_len hu
      refine ⟨zv', z ++ u, c + 1, by simp, y1.zz, y1.own, by omega, ⟨fun _ h1 => ?_, fun _ => by omega⟩, by simpa using e1, hch y2⟩
      rw [h1] at hl
      simp at hl
      exact hu hl.2
  · by_cases hu : u = []
    · subst hu
      refine (flush_none h.wrt).mono ?_
      rintro e w' ⟨rfl, rfl⟩
      exact ⟨zv, [], 0, by simp, h.wrt.zz, h.wrt.own, by omega, by simp, rfl, h.ch⟩
    · refine (flush_fail h.wrt hu (by omega)).mono ?_
      rintro e w' ⟨rfl, y1, y2⟩
      exact ⟨zv, [], 0 + 1, by simp [hu], y1.zz, y1.own, by omega, by simp [hu], rfl, hch y2⟩
  · refine (flush_er h.wrt).mono ?_
    rintro e w' ⟨rfl, rfl⟩
    exact ⟨zv, [], 1, by simp [e1], h.wrt.zz, h.wrt.own, by omega, by simp [e1], rfl, h.ch⟩

set_option maxHeartbeats 8000000 in
set_option maxRecDepth 100000 in
theorem writeDP {w0 w : World} {bm gf bz be : Nat} {f : Bool} {ids : List ByteArray} {rs : List (Nat × Int)} {iv en ad bu dp wv : Value} {W : List UInt8} (h : Dp w0 w bm gf ids rs iv en ad bu dp wv W) (hi : flat ids ≠ []) (hi0 : ids ≠ []) (hsz : ∀ s ∈ ids, s.size ≤ 4096) (hfl : (flat ids).length ≤ 1048578) (hil : ids.length ≤ 1025) (hrl : rs.length ≤ 1024) (hrb : ∀ r ∈ rs, -2147483648 ≤ r.2 ∧ r.2 ≤ 2147483647)
    (hz : w.heap[bz]? = some (.cells #[.slice none 0 0, .int .i64 0, if f then erv be else .nilIface] 33 (0, 0)))
    (htab : ∀ W, Ch (fun k => k = bz ∨ bu.ownBlock = some k) w W → Lib.TabIs Ybad.prog W powName .u64 Lib.pow10Tab) :
    Calls Ybad.prog 7 #[.pointer (some ⟨bm, 0, none⟩), .iface 29 (.pointer (some ⟨bz, 0, none⟩))] w (DpPost w bz be f bu (wantOf ids rs)) := by
  obtain ⟨i5, hi5, hz50, hz51, hz52⟩ := info_parts Ybad.info5
  obtain ⟨ge, ce, rfl, hids⟩ := h.ids hi hi0
  obtain ⟨aod, capd, rfl⟩ := h.row.slice_of
  have NW := Lib.hid (newWriter (be := be) hz)
  have H := Lib.hid (And.intro h (And.intro hids (And.intro hz htab)))
  have c25 : w.cell? ⟨bm, 25, none⟩ = some (.slice aod rs.length capd) := h.bl.map.cell 25
  have buL : ∀ j, bu.ownBlock = some j → j < w.heap.size := fun j hj => (h.bl.bytes.at j hj).1
  have BL := Lib.hid buL
  have HB := Lib.hid (And.intro hsz (And.intro hfl (And.intro hil hrb)))
  obtain ⟨nr, hnr⟩ : ∃ nr, rs.length = nr := ⟨_, rfl⟩
  rw [hnr] at c25 hrl
  clear hz h hids htab buL hsz hfl hil hrb hi
  go_enter Ybad.func7, Ybad.ntmps7
  go_wp2_with fail
  refine NW.out.mono ?_
  rintro e w1 ⟨rfl, r1, r2⟩
  have d25 : w1.cell? ⟨bm, 25, none⟩ = some (.slice aod nr capd) := r2.cell c25 (fun h => h)
  have L0 : Hid (Lp w w1 (w.heap.size + 1) w.heap.size bz be f false [] [] [] 0 (.slice none 0 0) (.slice none 0 0) bu (flat ids) []) := by
    refine ⟨r1, ?_, by simp [Value.ownBlock], by simpa [Lib.byteCells] using Own.nil w1 5 1, by simp [Value.ownBlock], by simp [Value.ownBlock], by simp [Value.ownBlock], H.out.2.1.bytes.ch r2 (fun _ _ h => h), r2.mono (fun _ _ h => h.elim), by omega, by omega, BL.out⟩
    cases f with
    | false => exact .inl ⟨rfl, rfl, rfl, by simp, by simp⟩
    | true => exact .inr (.inl ⟨rfl, rfl, rfl, rfl, rfl⟩)
  clear r1 r2 NW
  go_wp2
  go_loopw [6, 8, 16] (fun s6 s8 s16 wr => ∃ m : Nat, s16 = .int .i64 m ∧ m ≤ nr ∧ Hid (∃ er u z c zv T, Lp w wr (w.heap.size + 1) w.heap.size bz be f er (wantOf ids (rs.take m)) u z c zv s6 bu (flat ids) T)) (fun _ _ s16 _ => (nr - RowKit.intOf s16).toNat)
  case atStart => exact ⟨0, rfl, by omega, _, _, _, _, _, _, L0.out⟩
  case round =>
    obtain ⟨m, rfl, hm, HL⟩ := hrel
    by_cases hlt : m < nr
    · obtain ⟨⟨D, P⟩, hr⟩ : ∃ r, rs[m]? = some r := ⟨_, List.getElem?_eq_getElem (by omega)⟩
      obtain ⟨er, u, z, c, zv, T, hL⟩ := HL.out
      obtain ⟨X, hX⟩ : ∃ X, D % ids.length = X := ⟨_, rfl⟩
      have hil0 : 0 < ids.length := by
        rcases ids with _ | ⟨x, r⟩
        · exact absurd rfl hi0
        · simp
      have hXk : X < ids.length := by rw [← hX]; exact Nat.mod_lt _ hil0
      obtain ⟨sx, hsx⟩ : ∃ sx, ids[X]? = some sx := ⟨_, List.getElem?_eq_getElem hXk⟩
      have hPb := HB.out.2.2.2 _ (List.mem_of_getElem? hr)
      simp only at hPb
      obtain ⟨hP1, hP2⟩ := hPb
      have hsxl : sx.size ≤ 4096 := HB.out.1 sx (List.mem_of_getElem? hsx)
      obtain ⟨gd, capd2, hdp, _⟩ := H.out.1.row.some_of (by omega)
      simp only [Value.slice.injEq, true_and] at hdp
      obtain ⟨rfl, rfl⟩ := hdp
      have hrow := H.out.1.row
      have hdb := hrow.block
      have dgb : ¬ (gd = bz ∨ bu.ownBlock = some gd) := by
        obtain ⟨curd, hcd, _⟩ := hdb
        rintro (e | e)
        · have := H.out.2.2.1
          rw [← e, hcd] at this
          cases this
        · obtain ⟨cc, fz, hx⟩ := H.out.2.1.bytes.at gd e
          rw [hcd] at hx
          cases hx
      have hcl := dpCells_length ids rs
      have cX : wr.cell? ⟨gd, m * 2, none⟩ = some (.int .i32 (X : Int)) := by
        refine hL.ch.cell ?_ dgb
        rw [hrow.cell (m * 2) (by omega), (dpCells_get rs m _ hr).1, hX]
      have cP : wr.cell? ⟨gd, m * 2 + 1, none⟩ = some (.int .i32 P) := by
        refine hL.ch.cell ?_ dgb
        rw [hrow.cell (m * 2 + 1) (by omega), (dpCells_get rs m _ hr).2]
      have IDS := Lib.hid (H.out.2.1.late H.out.2.2.1 hL.ch hL.bytes)
      have HLL := Lib.hid hL
      have HX := Lib.hid (And.intro hr (And.intro hX hsx))
      clear hrow hdb dgb hcl hL hr hX hsx HL L0
      obtain ⟨v0, ho0, hb0, hv0⟩ := HLL.out.line.head
      have hsl : ∀ W, (Instr.slice 26 u6 none (some (.int .i64 0)) none).run Ybad.prog W = .ok v0 W := by
        intro W
        rcases hv0 with ⟨e1, e2⟩ | ⟨g, cg, e1, e2⟩
        · rw [e2, e1]
          go_simp
        · rw [e2, e1]
          go_simp
      clear hv0
      go_upto_region 6 with fail
      go_cut [6] (fun s6 wc => Hid (Lp w wc (w.heap.size + 1) w.heap.size bz be f er (wantOf ids (rs.take m)) u z c zv s6 bu (flat ids) sx.data.toList) ∧ (∃ ao cap, s6 = .slice ao sx.data.toList.length cap) ∧ wc.cell? ⟨wr.heap.size, 1, none⟩ = some (.int .i32 P) ∧ Hid (s6.ownBlock ≠ some wr.heap.size))
      case first =>
        obtain ⟨W1, hW1⟩ : ∃ W1, wr.alloc (.cells #[.int .i32 (X : Int), .int .i32 P] 67) = W1 := ⟨_, rfl⟩
        have kW1 : Ch (fun _ => False) wr W1 := by rw [← hW1]; exact (Ch.refl _ _).alloc _
        have p0 : W1.cell? ⟨wr.heap.size, 0, none⟩ = some (.int .i32 (X : Int)) := by
          rw [← hW1, cell_of_row _ _ _ _ _ _ (heap_alloc_new wr _)]
          rfl
        have p1 : W1.cell? ⟨wr.heap.size, 1, none⟩ = some (.int .i32 P) := by
          rw [← hW1, cell_of_row _ _ _ _ _ _ (heap_alloc_new wr _)]
          rfl
        have CALL : Hid (Calls Ybad.prog 13 #[.pointer (some ⟨bm, 8, none⟩), .int .i32 (X : Int)] W1.drew fun r w2 => r = .returned (.string sx) ∧ Own w2 5 1 v0 0 [] ∧ Hid (∀ ao' cap' w3, Own w3 5 1 (.slice ao' (0 + sx.size) cap') (0 + sx.size) ([] ++ Lib.strCells sx) → Ch (fun k => v0.ownBlock = some k) w2 w3 → Fresh w2 v0 (.slice ao' (0 + sx.size) cap') →
            Lp w w3 (w.heap.size + 1) w.heap.size bz be f er (wantOf ids (rs.take m)) u z c zv (.slice ao' (0 + sx.size) cap') bu (flat ids) sx.data.toList ∧ w3.cell? ⟨wr.heap.size, 1, none⟩ = some (.int .i32 P) ∧ (Value.slice ao' (0 + sx.size) cap').ownBlock ≠ some wr.heap.size)) := by
          have k1 : Ch (fun _ => False) wr W1.drew := kW1.drew
          have e1 := endsOf_get hXk
          have hsub : (flat (ids.take X)).length ≤ (flat (ids.take (X + 1))).length := by
            rw [take_succ_of HX.out.2.2, flat_append, List.length_append]
            omega
          have hsub2 : (flat (ids.take (X + 1))).length ≤ (flat ids).length := by
            have e : flat ids = flat (ids.take (X + 1)) ++ flat (ids.drop (X + 1)) := by rw [← flat_append, List.take_append_drop]
            rw [e, List.length_append]
            omega
          have hsid : (X = 0 ∧ (flat (ids.take X)).length = 0) ∨ (0 < X ∧ (endsOf ids)[X - 1]? = some (flat (ids.take X)).length) := by
            by_cases hx0 : X = 0
            · left
              refine ⟨hx0, ?_⟩
              rw [hx0]
              rfl
            · right
              refine ⟨by omega, ?_⟩
              rw [endsOf_get (by omega), show X - 1 + 1 = X by omega]
          have hid1 := IDS.out.ch k1 ⟨fun h => h, fun h => h, fun h => h, fun _ _ h => h⟩
          refine (id_map hid1 X _ _ e1 hsid hsub hsub2 (by have := HB.out.2.2.1; omega)).mono ?_
          rintro r w2 ⟨rfl, y1, y2⟩
          have l1 := (HLL.out.keep k1 (fun h => h) (fun h => h) (fun h => h) (fun _ _ h => h) (fun _ _ h => h) (fun _ _ h => h) (fun _ _ h => h)).froze y2 y1.bytes
          have n0 : ¬ v0.ownBlock = some wr.heap.size := fun e => by
            have := (ho0.at _ e).1
            omega
          have nb : ¬ bu.ownBlock = some wr.heap.size := fun e => by
            have h1 := BL.out _ e
            have h2 := HLL.out.ch.size
            omega
          have o2 : Own w2 5 1 v0 0 [] := (ho0.ch k1 (fun _ _ h => h)).ch y2 (fun j hj e => by
            rw [hb0] at hj
            have h1 := HLL.out.lvN j hj
            have h2 := BL.out j e
            omega)
          refine ⟨by rw [extract_id HX.out.2.2], o2, ?_⟩
          intro ao' cap' w3 o3 k3 f3
          have l2 := (l1.head o2 hb0).put (t := sx.data.toList) (v' := .slice ao' (0 + sx.size) cap') (w' := w3) ?_ k3 f3
          · have pw2 := y2.cell (show W1.drew.cell? ⟨wr.heap.size, 1, none⟩ = _ from p1) nb
            refine ⟨by simpa using l2, k3.cell pw2 n0, fun e => ?_⟩
            rcases f3 _ e with r | r
            · exact n0 r
            · have := cell_lt pw2
              simp at this
              omega
          · have e3 : (([] : List UInt8) ++ sx.data.toList).length = 0 + sx.size := by
              rw [List.nil_append, Nat.zero_add]
              rfl
            rw [e3]
            exact o3
        have b63 : 0 + sx.size ≤ maxLen := by unfold maxLen; omega
        have bby : 0 + sx.size ≤ 140737488355328 := by omega
        rw [hW1]
        clear hW1
        go_region_law (first
          | (go_simp; go_at_call 13; refine CALL.out.mono ?_; rintro e w2 ⟨rfl, o2, n2⟩; go_wp2)
          | (refine step_append_Own_string _ rfl (.tmp 21) (.tmp 27) 26 9 rfl 5 i5 Ybad.underlying26 Ybad.underlying9 hi5 hz50 hz51 hz52 v0 0 [] (by simp [Act.eval]) o2 sx (by simp [Act.eval]) b63 bby ?_; intro ao3 cap3 w3 o3 k3 f3; have FI := n2.out ao3 cap3 w3 o3 k3 f3; clear o3 k3 f3))
        all_goals (
          simp only [Nat.zero_add] at FI
          go_wp2_with fail
          go_meet
          case rel => exact ⟨FI.1, ⟨ao3, cap3, rfl⟩, FI.2.1, FI.2.2⟩)
      case rest =>
        obtain ⟨C0, ⟨aol, capl, rfl⟩, p1, Q0⟩ := hcut
        obtain ⟨T0, hT0⟩ : ∃ T0, sx.data.toList = T0 := ⟨_, rfl⟩
        have lT0 : T0.length ≤ 4096 := by rw [← hT0]; exact hsxl
        rw [hT0] at C0 ⊢
        have HT0 := Lib.hid hT0
        have q0 : (Value.slice aol T0.length capl).ownBlock ≠ some wr.heap.size := by rw [← HT0.out]; exact Q0.out
        clear hT0 hsl HLL IDS cX cP
        go_wp2_with (at_builtin; refine wpList_append_Own _ rfl _ _ 26 rfl 5 i5 (.int .u8 0) 1 1 Ybad.underlying26 hi5 hz50 hz51 hz52 rfl (by decide) _ T0.length (Lib.byteCells T0) rfl (C0.out.line.alloc _) ⟨wc.heap.size, 0, none⟩ 1 1 [.int .u8 9] rfl rfl ?f1 ?f2 ?f3 ?f4 ?_)
        case f1 => exact cell_one_new wc _ _
        case f2 => intro x hx; simp at hx; subst hx; rfl
        case f3 => unfold maxLen; omega
        case f4 => omega
        intro ao7 cap7 w7 o7 k7 f7
        have C7 := Lib.hid (C0.out.putB (x := 9) o7 k7 f7)
        have p7 : w7.cell? ⟨wr.heap.size, 1, none⟩ = some (.int .i32 P) := k7.cell ((((Ch.refl (fun _ => False) wc).alloc _).cell p1 (fun h => h))) q0
        have hl7 : (T0 ++ [9]).length = T0.length + 1 := by simp
        obtain ⟨T7, hT7⟩ : ∃ T7, T0 ++ [9] = T7 := ⟨_, rfl⟩
        have l7 : T7.length ≤ 4097 := by rw [← hT7, hl7]; omega
        rw [hT7] at C7 hl7
        rw [← hl7] at C7 ⊢
        clear hl7 o7 k7 f7 p1 q0 C0
        have TB : Hid (∀ W, Ch (fun k => (Value.slice ao7 T7.length cap7).ownBlock = some k) w7 W → Lib.TabIs Ybad.prog W powName .u64 Lib.pow10Tab) := fun W hW => H.out.2.2.2 W (C7.out.ch.trans hW (fun x hx e => by have := C7.out.lvN x e; omega))
        go_wp2_with fail
        refine (appendInt T7.length P (by omega) (by omega) _ _ _ C7.out.line (by omega) TB.out).mono ?_
        rintro e w8 ⟨r8, rfl, ao8, cap8, rfl, o8, k8, f8⟩
        have C8 := Lib.hid (C7.out.put (t := Lib.itoa P) (by rw [Lib.byteCells_append, List.length_append]; exact o8) k8 f8)
        have l8i := Lib.itoa_length_le P (by omega) (by omega)
        have hl8 : (T7 ++ Lib.itoa P).length = T7.length + (Lib.itoa P).length := List.length_append
        obtain ⟨T8, hT8⟩ : ∃ T8, T7 ++ Lib.itoa P = T8 := ⟨_, rfl⟩
        have l8 : T8.length ≤ 4118 := by rw [← hT8, hl8]; omega
        rw [hT8] at C8 hl8
        rw [← hl8] at C8 ⊢
        clear hl8 o8 k8 f8 p7 l8i C7 TB
        go_wp2_with (at_builtin; refine wpList_append_Own _ rfl _ _ 26 rfl 5 i5 (.int .u8 0) 1 1 Ybad.underlying26 hi5 hz50 hz51 hz52 rfl (by decide) _ T8.length (Lib.byteCells T8) rfl (C8.out.line.alloc _) ⟨w8.heap.size, 0, none⟩ 1 1 [.int .u8 10] rfl rfl ?j1 ?j2 ?j3 ?j4 ?_)
        case j1 => exact cell_one_new w8 _ _
        case j2 => intro x hx; simp at hx; subst hx; rfl
        case j3 => unfold maxLen; omega
        case j4 => omega
        intro ao9 cap9 w9 o9 k9 f9
        have C9 := Lib.hid (C8.out.putB (x := 10) o9 k9 f9)
        have hl9 : (T8 ++ [10]).length = T8.length + 1 := by simp
        have hne9 : T8 ++ [10] ≠ [] := by simp
        obtain ⟨T9, hT9⟩ : ∃ T9, T8 ++ [10] = T9 := ⟨_, rfl⟩
        have l9 : T9.length ≤ 4119 := by rw [← hT9, hl9]; omega
        rw [hT9] at C9 hl9 hne9
        rw [← hl9] at C9 ⊢
        have hpos : 0 < T9.length := by omega
        obtain ⟨gl, capl9, e9, hcap9⟩ := C9.out.line.some_of hpos
        simp only [Value.slice.injEq, true_and] at e9
        obtain ⟨rfl, rfl⟩ := e9
        have FW : Hid (wantOf ids (rs.take (m + 1)) = wantOf ids (rs.take m) ++ T9) := by
          have e0 : ids.getD X d0 = sx := by simp [List.getD_eq_getElem?_getD, HX.out.2.2]
          have e1 : wantOf ids (rs.take (m + 1)) = wantOf ids (rs.take m) ++ lineOf ids (D, P) := by
            rw [take_succ_of HX.out.1]
            unfold wantOf
            simp
          have e2 : lineOf ids (D, P) = T9 := by
            rw [← hT9, ← hT8, ← hT7, ← HT0.out]
            unfold lineOf
            simp only [HX.out.2.1, e0]
          exact (by rw [e1, e2] : wantOf ids (rs.take (m + 1)) = wantOf ids (rs.take m) ++ T9)
        have BW : Hid (Calls Ybad.prog 15 #[.pointer (some ⟨w.heap.size + 1, 0, none⟩), .slice (some ⟨gl, 0, none⟩) T9.length cap9] w9 fun e w' => (∃ r1 r2, e = .returned (.tuple #[r1, r2])) ∧
            ∃ er' u' z' c' zv', Lp w w' (w.heap.size + 1) w.heap.size bz be f er' (wantOf ids (rs.take (m + 1))) u' z' c' zv' (.slice (some ⟨gl, 0, none⟩) T9.length cap9) bu (flat ids) T9) := by
          have hlt9 := C9.out.line.at gl rfl
          have hWl := want_len ids (rs.take m) HB.out.1 (fun r hr => HB.out.2.2.2 r (List.mem_of_mem_take hr))
          have hml : (rs.take m).length ≤ 1024 := by rw [List.length_take]; omega
          refine (bwrite C9.out.wrt C9.out.inv gl cap9 T9 ?_ hcap9 hne9 hlt9.1 ⟨?_, ?_, ?_, ?_⟩ (by omega)).mono ?_
          · intro j x hj
            have hj2 := (List.getElem?_eq_some_iff.1 hj).1
            rw [Lib.byteCells_length] at hj2
            rw [Lib.add_plain, Nat.zero_add, C9.out.line.cell j (by omega), hj]
          · intro e
            exact C9.out.line.ne C9.out.wrt.wr (by decide) (by rw [← e]; rfl)
          · intro e
            exact C9.out.lgb (by rw [← e]; rfl)
          · intro e
            exact C9.out.line.ne C9.out.wrt.zz (by decide) (by rw [← e]; rfl)
          · exact C9.out.lzv gl rfl
          · rintro e w' ⟨hr, er', u', z', c', zv', y1, y2, y3, y4⟩
            rw [← FW.out] at y2
            exact ⟨hr, er', u', z', c', zv', C9.out.wrote y1 y2 y3 y4⟩
        clear hl9 o9 k9 f9 C8 hT7 hT8 hT9
        go_wp2_with fail
        refine BW.out.mono ?_
        rintro e w10 ⟨⟨r1, r2, rfl⟩, er', u', z', c', zv', LF⟩
        have LN := Lib.hid LF
        clear LF
        go_wp2
        go_roundw
        case rel => exact ⟨m + 1, by simp, by omega, _, _, _, _, _, _, LN.out⟩
        case measure => simp [RowKit.intOf]; omega
    · obtain rfl : m = nr := by omega
      obtain ⟨er, u, z, c, zv, T, hL⟩ := HL.out
      have hall : rs.take m = rs := List.take_of_length_le (by omega)
      rw [hall] at hL
      have hWl := want_len ids rs HB.out.1 HB.out.2.2.2
      have FE := Lib.hid (flush_end hL (by omega))
      clear hL HL hall L0
      go_wp2_with fail
      refine FE.out.mono ?_
      rintro e w2 ⟨zv2, z2, c2, rfl, hrest⟩
      have HR := Lib.hid hrest
      clear hrest
      obtain ⟨rv, hrv⟩ : ∃ rv, (if f = true ∧ wantOf ids rs ≠ [] then erv be else Value.nilIface) = rv := ⟨_, rfl⟩
      rw [hrv]
      have HV := Lib.hid hrv
      clear hrv
      go_wp2
      go_ret
      exact ⟨zv2, z2, c2, by rw [HV.out]; rfl, HR.out⟩
end Go.Proofs.YbulkdeicDoor
