/-
  OWN WORK. LawS5276CBuilt's walk.
-/
import Derived.Test.YbulkdefyFmtPlain
import Derived.Test.YbulkdefyFmtPlan
import Derived.Test.YbulkdefyFmtBuild
import Derived.Deep.DeepCutAuto
import Derived.Deep.LoopGhost
import Derived.Lib.AppendIntMem
import Derived.Lib.QuietBelow
import Derived.LaidEqlPtr
namespace Go.Proofs.YbulkdefyFmt
open Go.RowKit Go.Stop Go.Sort

set_option maxRecDepth 100000 in
theorem law_long (cs : Array Value) (nv sv : Value) (ao : Option Addr) (len cap : Nat) (h : 1024 < len) (w : World) :
    Calls Ybaf.prog 3 #[.agg cs, nv, sv, .slice ao len cap] w fun e w' => e = .returned (.bool true) ∧ Below w.heap.size w w' := by
  have h' : (1024 : Int) < (len : Int) := by omega
  go_enter Ybaf.func3, Ybaf.ntmps3
  go_wp2
  go_ret
  exact ⟨rfl, (Below.refl _ _).alloc (Nat.le_refl _) _⟩

theorem dg_bd (m : Nat) (h : m < 6) : 33 ≤ ((⟨#[48, 49, 53, 54, 88, 57]⟩ : ByteArray)[m]'h).toNat ∧ ((⟨#[48, 49, 53, 54, 88, 57]⟩ : ByteArray)[m]'h).toNat < 128 := by
  have H : ∀ m : Fin 6, 33 ≤ ((⟨#[48, 49, 53, 54, 88, 57]⟩ : ByteArray)[m.val]'m.isLt).toNat ∧ ((⟨#[48, 49, 53, 54, 88, 57]⟩ : ByteArray)[m.val]'m.isLt).toNat < 128 := by decide
  exact H ⟨m, h⟩

theorem idx25 (r : Nat) (hr : r < 4) : ∃ hl : Nat, 7 ≤ hl ∧ hl ≤ 9 ∧ ∀ w : World, (Instr.index 25 (.agg #[.int .i64 8, .int .i64 8, .int .i64 7, .int .i64 9]) (.int .i64 (r : Int))).run Ybaf.prog w = .ok (.int .i64 (hl : Int)) w := by
  have h : r = 0 ∨ r = 1 ∨ r = 2 ∨ r = 3 := by omega
  rcases h with rfl | rfl | rfl | rfl
  · exact ⟨8, by omega, by omega, fun w => by kernel_rfl⟩
  · exact ⟨8, by omega, by omega, fun w => by kernel_rfl⟩
  · exact ⟨7, by omega, by omega, fun w => by kernel_rfl⟩
  · exact ⟨9, by omega, by omega, fun w => by kernel_rfl⟩

theorem hb_start (w : World) (hs : List Int) : WordInv 24 w ((w.alloc (.cells (hs.map (Value.int .u8)).toArray 22)).alloc (.cells #[.int .u8 0, .int .u8 0, .int .u8 0, .int .u8 0, .int .u8 0, .int .u8 0, .int .u8 0, .int .u8 0, .int .u8 0] 24)) (w.heap.size + 1) 9 0 := by
  refine ⟨[], rfl, by simp, ⟨by simp, .inr ⟨w.heap.size + 1, 0, 9, #[.int .u8 0, .int .u8 0, .int .u8 0, .int .u8 0, .int .u8 0, .int .u8 0, .int .u8 0, .int .u8 0, .int .u8 0], rfl, ?_, Nat.le_refl _, ?_, fun j hj => ?_⟩⟩, ((Below.refl _ w).alloc (Nat.le_refl _) _).alloc (by simp) _, by omega⟩
  · show ((w.heap.push _).push _)[w.heap.size + 1]? = _
    rw [Array.getElem?_push, if_pos (by simp)]
  · decide
  · rw [Nat.zero_add]
    have h : j < 9 := by omega
    have H : ∀ j : Fin 9, (#[Value.int .u8 0, .int .u8 0, .int .u8 0, .int .u8 0, .int .u8 0, .int .u8 0, .int .u8 0, .int .u8 0, .int .u8 0])[j.val]? = some (.int .u8 0) := fun j => by
      match j with
      | ⟨0, _⟩ => rfl
      | ⟨1, _⟩ => rfl
      | ⟨2, _⟩ => rfl
      | ⟨3, _⟩ => rfl
      | ⟨4, _⟩ => rfl
      | ⟨5, _⟩ => rfl
      | ⟨6, _⟩ => rfl
      | ⟨7, _⟩ => rfl
      | ⟨8, _⟩ => rfl
    rw [H ⟨j, h⟩, List.map_nil, List.nil_append, List.getElem?_replicate, if_pos (by omega)]

theorem head_cells (w : World) (hs : List Int) (o : Obj) (i : Nat) (hi : i < hs.length) : ((w.alloc (.cells (hs.map (Value.int .u8)).toArray 22)).alloc o).cell? ⟨w.heap.size, i, none⟩ = some (.int .u8 (hs.getD i 0)) := by
  have hb : Below (w.heap.size + 1) (w.alloc (.cells (hs.map (Value.int .u8)).toArray 22)) ((w.alloc (.cells (hs.map (Value.int .u8)).toArray 22)).alloc o) := (Below.refl _ _).alloc (by simp) _
  rw [cell_of_row _ w.heap.size i (hs.map (Value.int .u8)).toArray 22 (0, 0) (by rw [hb.block _ (by omega)]; show (w.heap.push _)[w.heap.size]? = _; simp)]
  simp [hi, List.getD_eq_getElem?_getD]

theorem cell_under {B : Nat} {w wx : World} {a : Addr} {v : Value} (hb : Below B w wx) (ha : a.block < B) (h : w.cell? a = some v) : wx.cell? a = some v := by
  rw [← h]
  unfold World.cell?
  rw [hb.block a.block ha]

/-- The words so far. -/
structure WS (w wr : World) (gw cap k : Nat) (ws : List (List UInt8)) : Prop where
  row : wr.ownsRow w.heap.size 9 1 (.slice (some ⟨gw, 0, none⟩) k cap) k (ws.map fun l => Value.string (toB l))
  len : ws.length = k
  bel : Below w.heap.size w wr
  sol : ∀ l ∈ ws, Solid l ∧ l ≠ [] ∧ l.length ≤ 9

theorem slice24 (W : World) (b hl : Nat) (h7 : 7 ≤ hl) (h9 : hl ≤ 9) : (Instr.sliceAt 24 (.pointer (some ⟨b, 0, none⟩)) none (some (.int .i64 (hl : Int))) none).run Ybaf.prog W = .ok (.slice (some ⟨b, 0, none⟩) hl 9) W := by
  have A7 : ∀ (W : World) (b : Nat), (Instr.sliceAt 24 (.pointer (some ⟨b, 0, none⟩)) none (some (.int .i64 7)) none).run Ybaf.prog W = .ok (.slice (some ⟨b, 0, none⟩) 7 9) W := fun W b => by kernel_rfl
  have A8 : ∀ (W : World) (b : Nat), (Instr.sliceAt 24 (.pointer (some ⟨b, 0, none⟩)) none (some (.int .i64 8)) none).run Ybaf.prog W = .ok (.slice (some ⟨b, 0, none⟩) 8 9) W := fun W b => by kernel_rfl
  have A9 : ∀ (W : World) (b : Nat), (Instr.sliceAt 24 (.pointer (some ⟨b, 0, none⟩)) none (some (.int .i64 9)) none).run Ybaf.prog W = .ok (.slice (some ⟨b, 0, none⟩) 9 9) W := fun W b => by kernel_rfl
  have h : hl = 7 ∨ hl = 8 ∨ hl = 9 := by omega
  rcases h with rfl | rfl | rfl
  · exact A7 W b
  · exact A8 W b
  · exact A9 W b

/-- The one new string lies in the block that the append reads. -/
theorem one_new (W : World) (s : ByteArray) : (∀ (j : Nat) (u : Value), [Value.string s][j]? = some u → (W.alloc (.cells #[.string s] 9)).cell? ((⟨W.heap.size, 0, none⟩ : Addr).add j) = some u) ∧ ∀ u ∈ [Value.string s], u.oneCell' = true := by
  refine ⟨fun j u h => ?_, fun u h => ?_⟩
  · cases j with
    | zero =>
      simp at h
      subst h
      show (W.alloc _).cell? ⟨W.heap.size, 0 + 0, none⟩ = _
      rw [cell_of_row _ W.heap.size _ #[.string s] 9 (0, 0) (by show (W.heap.push _)[W.heap.size]? = _; simp)]
      rfl
    | succ j => simp at h
  · rw [List.mem_singleton.1 h]; rfl

theorem WordInv.grown {e : TypeId} {w wr wx : World} {g n k : Nat} {row : Option Nat} (h : WordInv e w wr g n k) (hg : wr.grownBy wx row) (hr : ∀ j, row = some j → j ≠ g ∧ w.heap.size ≤ j := by intro j hj; cases hj) : WordInv e w wx g n k := by
  obtain ⟨ys, hy, hs, ho, hb, hgg⟩ := h
  refine ⟨ys, hy, hs, ho.kept fun j hj => ?_, hb.grown hg hb.size (fun j hj => (hr j hj).2), hgg⟩
  have hjg : g = j := by simpa [Value.ownBlock] using hj
  subst hjg
  exact hg.block g (ho.ownBlock_lt g rfl).1 (fun h => (hr g h.symm).1 rfl)

theorem row_below {B : Nat} {wr wx : World} {gw cap k base : Nat} {e : TypeId} {vs : List Value} (h : wr.ownsRow base e 1 (.slice (some ⟨gw, 0, none⟩) k cap) k vs) (hb : Below B wr wx) (hB : gw < B) : wx.ownsRow base e 1 (.slice (some ⟨gw, 0, none⟩) k cap) k vs := by
  refine ⟨h.1, ?_⟩
  rcases h.2 with ⟨h', _⟩ | ⟨g, cap', cur, h', hge, hg, r⟩
  · simp at h'
  · have h2 := h'
    simp only [Value.slice.injEq, Option.some.injEq, Addr.mk.injEq, and_true, true_and] at h2
    obtain ⟨rfl, rfl⟩ := h2
    exact .inr ⟨_, _, cur, rfl, hge, (hb.block _ hB).trans hg, r⟩

theorem WS.below {w wr wx : World} {gw cap k : Nat} {ws : List (List UInt8)} (h : WS w wr gw cap k ws) (hb : Below wr.heap.size wr wx) : WS w wx gw cap k ws :=
  ⟨row_below h.row hb (h.row.lt gw rfl).2, h.len, h.bel.trans (hb.mono h.bel.size), h.sol⟩

theorem WS.push {w wr wx w' : World} {gw cap k : Nat} {ws : List (List UInt8)} (h : WS w wr gw cap k ws) (hb : Below wr.heap.size wr wx) (l : List UInt8) (hl : Solid l ∧ l ≠ [] ∧ l.length ≤ 9)
    (hr : w'.ownsRow w.heap.size 9 1 (.slice (some ⟨gw, 0, none⟩) (k + 1) cap) (k + 1) ((ws.map fun l => Value.string (toB l)) ++ [.string (toB l)])) (hg : wx.grownBy w' (some gw)) : WS w w' gw cap (k + 1) (ws ++ [l]) := by
  refine ⟨by simpa using hr, by simp [h.len], ?_, ?_⟩
  · exact (h.bel.trans (hb.mono h.bel.size)).grown hg (Nat.le_trans h.bel.size hb.size) (fun j hj => by cases hj; exact (h.row.lt gw rfl).1)
  · intro x hx
    rcases List.mem_append.1 hx with h2 | h2
    · exact h.sol x h2
    · rw [List.mem_singleton.1 h2]; exact hl

/-- The builder's state: l written, nothing below the builder turned since w5. -/
structure BS (w5 wr : World) (bb : Nat) (l : List UInt8) : Prop where
  bld : Lib.IsBuilder 33 5 bb bb (Lib.byteCells l) wr
  bel : Below bb w5 wr
  eq : bb = w5.heap.size

theorem BS.fresh (w : World) : BS w (w.alloc (.cells #[.pointer none, .slice none 0 0] 33)) w.heap.size [] :=
  ⟨Lib.fresh_isBuilder 33 5 w, (Below.refl _ _).alloc (Nat.le_refl _) _, rfl⟩

theorem BS.le {w5 wr : World} {bb : Nat} {l : List UInt8} (h : BS w5 wr bb l) : bb ≤ wr.heap.size := by have := h.bel.size; have := h.eq; omega

theorem BS.wrote {w5 wr wx : World} {bb : Nat} {l m : List UInt8} (h : BS w5 wr bb l) (hb : Lib.BuilderAt 33 5 bb bb (.pointer (some ⟨bb, 0, none⟩)) (Lib.byteCells l ++ Lib.strCells (toB m)) wx) (hx : Below bb wr wx) : BS w5 wx bb (l ++ m) := by
  refine ⟨.inr ?_, h.bel.trans hx, h.eq⟩
  have e : Lib.byteCells (l ++ m) = Lib.byteCells l ++ Lib.strCells (toB m) := by
    show (l ++ m).map _ = _
    rw [List.map_append]
    rfl
  rw [e]
  exact hb

theorem BS.ws {w w5 wr : World} {bb gw cap k : Nat} {l : List UInt8} {ws : List (List UInt8)} (h : BS w5 wr bb l) (hs : WS w w5 gw cap k ws) : WS w wr gw cap k ws :=
  hs.below (by rw [← h.eq]; exact h.bel)

/-- One WriteString. -/
theorem BS.write {w5 wr : World} {bb : Nat} {l : List UInt8} (h : BS w5 wr bb l) (m : List UInt8) (hl : l.length + m.length ≤ 100000) :
    Calls Ybaf.prog 6 #[.pointer (some ⟨bb, 0, none⟩), .string (toB m)] wr fun e w' => e = .returned (.tuple #[.int .i64 (toB m).size, .nilIface]) ∧ BS w5 w' bb (l ++ m) := by
  refine (writeString_any bb bb (Lib.byteCells l) (toB m) wr h.bld (by rw [Lib.byteCells_length]; have : (toB m).size = m.length := rfl; omega) h.le).mono ?_
  rintro e w' ⟨rfl, h1, h2⟩
  exact ⟨rfl, h.wrote h1 h2⟩

theorem WS.rows {w wr : World} {gw cap k : Nat} {ws : List (List UInt8)} (h : WS w wr gw cap k ws) : RowS wr gw 0 (ws.map toB) := fun i hi => by
  have hi' : i < ws.length := by simpa using hi
  rw [(OwnsR.ofRow h.row).cell i (by have := h.len; omega)]
  simp [hi', List.getD_eq_getElem?_getD]

theorem WS.each {w wr : World} {gw cap k : Nat} {ws : List (List UInt8)} (h : WS w wr gw cap k ws) (j : Nat) : Solid (ws.getD j []) ∧ (j < ws.length → ws.getD j [] ≠ []) ∧ (ws.getD j []).length ≤ 9 := by
  by_cases hj : j < ws.length
  · have e : ws.getD j [] = ws[j] := by simp [List.getD_eq_getElem?_getD, hj]
    have := h.sol ws[j] (List.getElem_mem hj)
    rw [e]
    exact ⟨this.1, fun _ => this.2.1, this.2.2⟩
  · have e : ws.getD j [] = [] := by simp [List.getD_eq_getElem?_getD, hj]
    rw [e]
    exact ⟨by intro b hb; simp at hb, fun h => absurd h hj, by simp⟩

theorem WS.at {w wr : World} {gw cap k : Nat} {ws : List (List UInt8)} (h : WS w wr gw cap k ws) (j : Nat) (hj : j < k) : wr.cell? ⟨gw, j, none⟩ = some (.string (toB (ws.getD j []))) := by
  have := h.rows j (by rw [List.length_map, h.len]; exact hj)
  rw [Nat.zero_add] at this
  rw [this]
  have hj' : j < ws.length := by have := h.len; omega
  simp [List.getD_eq_getElem?_getD, hj']

theorem WS.cap_le {w wr : World} {gw cap k : Nat} {ws : List (List UInt8)} (h : WS w wr gw cap k ws) : k ≤ cap := by
  obtain ⟨cur, _, _, h3⟩ := (OwnsR.ofRow h.row).block
  exact h3

theorem RowS.tail {w : World} {g : Nat} {ss : List ByteArray} (h : RowS w g 0 ss) : RowS w g 1 ss.tail := fun i hi => by
  rw [List.length_tail] at hi
  have hc := h (i + 1) (by omega)
  have e2 : 0 + (i + 1) = 1 + i := by omega
  rw [e2] at hc
  rw [hc]
  cases ss with
  | nil => rfl
  | cons a l => simp [List.getD_eq_getElem?_getD]

/-- What the law reads of the plan. -/
def IsPlan0 (c : Array Value) : Prop := c.size = 25 ∧ c[1]? = some (.string ⟨#[75, 76, 77, 49]⟩) ∧ c[17]? = some (.string ⟨#[79, 76, 68]⟩) ∧ c[18]? = some (.string ⟨#[84]⟩) ∧ c[19]? = some (.slice none 0 0)
theorem isPlan0 : IsPlan0 plan0 := ⟨rfl, rfl, rfl, rfl, rfl⟩

theorem IsPlan0.cells {c : Array Value} (h : IsPlan0 c) {w : World} {pb : Nat} (hp : w.heap[pb]? = some (.cells c 49 (0, 0))) : w.cell? ⟨pb, 1, none⟩ = some (.string ⟨#[75, 76, 77, 49]⟩) ∧ w.cell? ⟨pb, 17, none⟩ = some (.string ⟨#[79, 76, 68]⟩) ∧ w.cell? ⟨pb, 18, none⟩ = some (.string ⟨#[84]⟩) ∧ w.cell? ⟨pb, 19, none⟩ = some (.slice none 0 0) := by
  rw [cell_of_row w pb 1 _ 49 (0, 0) hp, cell_of_row w pb 17 _ 49 (0, 0) hp, cell_of_row w pb 18 _ 49 (0, 0) hp, cell_of_row w pb 19 _ 49 (0, 0) hp]
  exact h.2

theorem rej_cell {w : World} {rb : Nat} {t : ByteArray} (h : w.heap[rb]? = some (.cells #[.string synB, .string t] 55 (0, 0))) : w.cell? ⟨rb, 0, none⟩ = some (.string ⟨#[115, 121, 110, 116, 97, 120]⟩) := by
  rw [cell_of_row w rb 0 _ 55 (0, 0) h]
  rfl

theorem alloc_at (w : World) (c : Array Value) : (w.alloc (.cells c 49)).heap[w.heap.size]? = some (.cells c 49 (0, 0)) := by show (w.heap.push _)[w.heap.size]? = _; simp

theorem nil_eql (w : World) : (binOp .eql 27 (.slice none 0 0) (.slice none 0 0)).run Ybaf.prog w = .ok (.bool true) w := by kernel_rfl

theorem IsPlan0.taken {c : Array Value} (h : IsPlan0 c) {w : World} {pb : Nat} {x y z : Value} (hp : w.heap[pb]? = some (.cells (((c.setIfInBounds 17 x).setIfInBounds 18 y).setIfInBounds 19 z) 49 (0, 0))) : w.cell? ⟨pb, 1, none⟩ = some (.string ⟨#[75, 76, 77, 49]⟩) ∧ w.cell? ⟨pb, 17, none⟩ = some x ∧ w.cell? ⟨pb, 18, none⟩ = some y ∧ w.cell? ⟨pb, 19, none⟩ = some z := by
  rw [cell_of_row w pb 1 _ 49 (0, 0) hp, cell_of_row w pb 17 _ 49 (0, 0) hp, cell_of_row w pb 18 _ 49 (0, 0) hp, cell_of_row w pb 19 _ 49 (0, 0) hp]
  have h25 := h.1
  refine ⟨?_, ?_, ?_, ?_⟩
  · rw [Array.getElem?_setIfInBounds_ne (by decide), Array.getElem?_setIfInBounds_ne (by decide), Array.getElem?_setIfInBounds_ne (by decide)]
    exact h.2.1
  · rw [Array.getElem?_setIfInBounds_ne (by decide), Array.getElem?_setIfInBounds_ne (by decide), Array.getElem?_setIfInBounds_self, if_pos (by omega)]
  · rw [Array.getElem?_setIfInBounds_ne (by decide), Array.getElem?_setIfInBounds_self, if_pos (by simp; omega)]
  · rw [Array.getElem?_setIfInBounds_self, if_pos (by simp; omega)]

theorem RowS.ch {w w' : World} {g o pb : Nat} {ss : List ByteArray} (h : RowS w g o ss) (hg : g < w.heap.size) (hne : g ≠ pb) (hc : Ch (fun k => k = pb) w w') : RowS w' g o ss := fun i hi => by
  rw [← h i hi]
  unfold World.cell?
  simp only
  rw [hc.block g hg hne]

theorem RowS.regrown {w w' : World} {g o : Nat} {ss : List ByteArray} (h : RowS w g o ss) (hb : Below w.heap.size w w') : RowS w' g o ss := fun i hi => cell_later hb (h i hi)

theorem RowS.nil (w : World) (g o : Nat) : RowS w g o [] := fun i hi => by simp at hi

theorem okB_size8 {ss : List ByteArray} (h0 : 0 < ss.length) (h : okB ss = true) : (ss.getD 0 ByteArray.empty).size = 8 := by
  match ss, h0 with
  | s :: r, _ =>
    have h' : (okHead s && r.all locB) = true := h
    unfold okHead at h'
    simp only [Bool.and_eq_true, decide_eq_true_eq] at h'
    exact h'.1.1.1.1

theorem slice1 (W : World) (gw m len : Nat) (h : ¬ len = 0) : (Instr.slice 27 (.slice (some ⟨gw, 0, none⟩) (m + 1) (len + 1)) (some (.int .i64 1)) none none).run Ybaf.prog W = .ok (.slice (some ⟨gw, 1, none⟩) m len) W := by
  have e : Ybaf.prog.underlying 27 = some (.slice (Ybaf.prog.elem 27)) := by kernel_rfl
  have z : (sizeOf (Ybaf.prog.elem 27)).run Ybaf.prog W = .ok 1 W := by kernel_rfl
  rw [run_slice_l W 27 _ _ _ e .i64 1 (by decide) (by omega), z]
  simp [Result.andThen, sliced, h, Addr.add]

theorem slice_neq_nil (w : World) (g o m : Nat) : (binOp .neq 27 (.slice (some ⟨g, o, none⟩) m m) (.slice none 0 0)).run Ybaf.prog w = .ok (.bool true) w := by kernel_rfl

/-- A run of spaces, or nothing. -/
def Pad (l : List UInt8) : Prop := Spaces l ∧ l.length ≤ 3 ∧ ∀ b ∈ l, b.toNat < 128
theorem Pad.nil : Pad [] := ⟨by intro b hb; simp at hb, by simp, by simp⟩
theorem Pad.sep (i : Nat) : Pad (sepOf i) := ⟨(sepOf_facts i).1, (sepOf_facts i).2.2⟩

theorem info9 : (Ybaf.prog.info? 9).map (fun i => (i.zero, i.size, i.bytes)) = some (some (.string ⟨#[]⟩), 1, 16) := by kernel_rfl
set_option maxRecDepth 100000 in
set_option maxHeartbeats 1000000 in
theorem law_any (F : Interp) (hs : List Int) (hhs : hs.length = 8) (hhb : ∀ i, i < 8 → 0 ≤ hs.getD i 0 ∧ hs.getD i 0 ≤ 255) (noise sep : Nat) (hno : noise ≤ 255) (hse : sep ≤ 255)
    (ao : Option Addr) (ab off len cap : Nat) (xs : List Int) (hlen : len ≤ 1024) (hao : 0 < len → ao = some ⟨ab, off, none⟩) (w : World)
    (hx : ∀ i, i < len → w.cell? ⟨ab, off + i, none⟩ = some (.int .u32 (xs.getD i 0))) (hxb : ∀ i, i < len → 0 ≤ xs.getD i 0 ∧ xs.getD i 0 < 4294967296)
    (hF : F.answers w.tape) (htab : Lib.TabIs Ybaf.prog w "strings.asciiSpace" .u8 Lib.asciiSpaceTab) :
    Calls Ybaf.prog 3 #[.agg (hs.map (Value.int .u8)).toArray, .int .u8 (noise : Int), .int .u8 (sep : Int), .slice ao len cap] w fun e w' => e = .returned (.bool true) ∧ Below w.heap.size w w' := by
  have hl' : decide ((1024 : Int) < (len : Int)) = false := decide_eq_false (by omega)
  have hl2 : decide (1024 < len) = false := decide_eq_false (by omega)
  have HX : Hid ((0 < len → ao = some ⟨ab, off, none⟩) ∧ (∀ i, i < len → w.cell? ⟨ab, off + i, none⟩ = some (.int .u32 (xs.getD i 0))) ∧ (∀ i, i < len → 0 ≤ xs.getD i 0 ∧ xs.getD i 0 < 4294967296)) := ⟨hao, hx, hxb⟩
  have HFT : Hid (F.answers w.tape ∧ Lib.TabIs Ybaf.prog w "strings.asciiSpace" .u8 Lib.asciiSpaceTab) := ⟨hF, htab⟩
  have HH : Hid (hs.length = 8 ∧ ∀ i, i < 8 → 0 ≤ hs.getD i 0 ∧ hs.getD i 0 ≤ 255) := ⟨hhs, hhb⟩
  have HN : Hid (noise ≤ 255 ∧ sep ≤ 255) := ⟨hno, hse⟩
  clear hao hx hxb hF htab hhs hhb hno hse
  obtain ⟨i9, hi9, hz0, hz1, hz2⟩ := info_parts info9
  go_enter Ybaf.func3, Ybaf.ntmps3
  go_wp2
  have J0 : Hid (WordInv 24 w ((w.alloc (.cells (hs.map (Value.int .u8)).toArray 22)).alloc (.cells #[.int .u8 0, .int .u8 0, .int .u8 0, .int .u8 0, .int .u8 0, .int .u8 0, .int .u8 0, .int .u8 0, .int .u8 0] 24)) (w.heap.size + 1) 9 0) := hb_start w hs
  have C0 : Hid (∀ i, i < 8 → ((w.alloc (.cells (hs.map (Value.int .u8)).toArray 22)).alloc (.cells #[.int .u8 0, .int .u8 0, .int .u8 0, .int .u8 0, .int .u8 0, .int .u8 0, .int .u8 0, .int .u8 0, .int .u8 0] 24)).cell? ⟨w.heap.size, i, none⟩ = some (.int .u8 (hs.getD i 0))) := fun i hi => head_cells w hs _ i (by have := HH.out.1; omega)
  generalize ((w.alloc (.cells (hs.map (Value.int .u8)).toArray 22)).alloc (.cells #[.int .u8 0, .int .u8 0, .int .u8 0, .int .u8 0, .int .u8 0, .int .u8 0, .int .u8 0, .int .u8 0, .int .u8 0] 24)) = W1 at J0 C0
  go_loopw [10] (fun s10 wr => ∃ k : Nat, k ≤ 4 ∧ s10 = .int .i64 k ∧ Hid (WordInv 24 w wr (w.heap.size + 1) 9 k ∧ Below (w.heap.size + 1) W1 wr)) (fun s10 _ => 4 - (intOf s10).toNat)
  case atStart => exact ⟨0, by omega, rfl, J0.out, Below.refl _ _⟩
  case round =>
    obtain ⟨k, hk, rfl, JK⟩ := hrel
    by_cases hlt : k < 4
    · have hlt' : (k : Int) < 4 := by omega
      have hc0 : wr.cell? ⟨w.heap.size, k, none⟩ = some (.int .u8 (hs.getD k 0)) := cell_under JK.out.2 (Nat.lt_succ_self _) (C0.out k (by omega))
      obtain ⟨z, hz⟩ : ∃ z : Nat, hs.getD k 0 = (z : Int) := ⟨(hs.getD k 0).toNat, by have := HH.out.2 k (by omega); omega⟩
      have hz255 : z ≤ 255 := by have := HH.out.2 k (by omega); omega
      rw [hz] at hc0
      have ht9 : (z : Int).tmod 9 = ((z % 9 : Nat) : Int) := (Int.ofNat_tmod z 9).symm
      have hm9 : z % 9 < 9 := Nat.mod_lt _ (by decide)
      generalize z % 9 = m at ht9 hm9
      obtain ⟨hcl, hfr⟩ := JK.out.1.cell (show k < 9 by omega)
      clear hz
      go_wp2
      go_roundw
      case rel => exact ⟨k + 1, by omega, by go_num, JK.out.1.step (by omega) _ (lt_bd m hm9), JK.out.2.setCell (p := ⟨w.heap.size + 1, k, none⟩) (Nat.le_refl _) _⟩
      case measure => simp [intOf]; omega
    · have hke : k = 4 := by omega
      have J1 : Hid (WordInv 24 w wr (w.heap.size + 1) 9 4 ∧ Below (w.heap.size + 1) W1 wr) := by rw [hke] at JK; exact JK
      have hlt' : decide ((k : Int) < 4) = false := decide_eq_false (by omega)
      have hlt2 : decide (k < 4) = false := decide_eq_false hlt
      clear JK hke hk
      go_wp2
      go_loopw [11] (fun s11 wr => ∃ k : Nat, 4 ≤ k ∧ k ≤ 8 ∧ s11 = .int .i64 k ∧ Hid (WordInv 24 w wr (w.heap.size + 1) 9 k ∧ Below (w.heap.size + 1) W1 wr)) (fun s11 _ => 8 - (intOf s11).toNat)
      case atStart => exact ⟨4, by omega, by omega, rfl, J1⟩
      case round =>
        clear J1 hlt hlt' hlt2
        obtain ⟨k, hk4, hk, rfl, JK⟩ := hrel
        by_cases hlt : k < 8
        · have hlt' : (k : Int) < 8 := by omega
          have hc0 : wr.cell? ⟨w.heap.size, k, none⟩ = some (.int .u8 (hs.getD k 0)) := cell_under JK.out.2 (Nat.lt_succ_self _) (C0.out k (by omega))
          obtain ⟨z, hz⟩ : ∃ z : Nat, hs.getD k 0 = (z : Int) := ⟨(hs.getD k 0).toNat, by have := HH.out.2 k (by omega); omega⟩
          have hz255 : z ≤ 255 := by have := HH.out.2 k (by omega); omega
          rw [hz] at hc0
          have ht9 : (z : Int).tmod 6 = ((z % 6 : Nat) : Int) := (Int.ofNat_tmod z 6).symm
          have hm9 : z % 6 < 6 := Nat.mod_lt _ (by decide)
          generalize z % 6 = m at ht9 hm9
          obtain ⟨hcl, hfr⟩ := JK.out.1.cell (show k < 9 by omega)
          clear hz
          go_wp2
          go_roundw
          case rel => exact ⟨k + 1, by omega, by omega, by go_num, JK.out.1.step (by omega) _ (dg_bd m hm9), JK.out.2.setCell (p := ⟨w.heap.size + 1, k, none⟩) (Nat.le_refl _) _⟩
          case measure => simp [intOf]; omega
        · have hke : k = 8 := by omega
          have JK8 : Hid (WordInv 24 w wr (w.heap.size + 1) 9 8 ∧ Below (w.heap.size + 1) W1 wr) := by rw [hke] at JK; exact JK
          have hlt' : decide ((k : Int) < 8) = false := decide_eq_false (by omega)
          have hlt2 : decide (k < 8) = false := decide_eq_false hlt
          clear JK hke hk hk4
          obtain ⟨hcl, hfr⟩ := JK8.out.1.cell (show 8 < 9 by omega)
          obtain ⟨q, hq, hq15⟩ : ∃ q : Nat, (noise : Int) / 16 = (q : Int) ∧ q ≤ 15 := ⟨noise / 16, by omega, by have := HN.out.1; omega⟩
          have htq : (q : Int).tmod 4 = ((q % 4 : Nat) : Int) := (Int.ofNat_tmod q 4).symm
          have hr4 : q % 4 < 4 := Nat.mod_lt _ (by decide)
          generalize q % 4 = r at htq hr4
          obtain ⟨hl, hl7, hl9, HIX⟩ := idx25 r hr4
          have hix := HIX (wr.setCell ⟨w.heap.size + 1, 8, none⟩ (.int .u8 48))
          have J2 : Hid (WordInv 24 w (wr.setCell ⟨w.heap.size + 1, 8, none⟩ (.int .u8 48)) (w.heap.size + 1) 9 9) := JK8.out.1.step (by omega) 48 (by decide)
          clear HIX JK8 C0 J0
          go_wp2_with (at_make; refine wpList_make_own _ rfl _ _ 27 rfl w.heap.size 9 i9 (.string ⟨#[]⟩) 1 Ybaf.underlying27 hi9 hz0 hz1 .i64 .i64 _ (len + 1) rfl rfl ?mC ?mb2 ?mb3 ?mb4 ?_)
          case mC => rfl
          case mb2 => rw [hz2]; omega
          case mb3 => unfold maxLen; omega
          case mb4 => have := J2.out.bel.size; exact this
          intro W3 hown hg
          have S3 : Hid (WS w W3 wr.heap.size (len + 1) 0 []) := ⟨hown, rfl, J2.out.bel.grown hg (J2.out.bel.size) (fun _ h => by cases h), by simp⟩
          have J3 : Hid (WordInv 24 w W3 (w.heap.size + 1) 9 9) := J2.out.grown hg
          clear hown hg J2 hix
          generalize wr.heap.size = gw at S3
          go_upto_if 63 with fail
          go_cut [13] (fun s13 wc => ∃ (k : Nat) (ws : List (List UInt8)), k ≤ 1 ∧ s13 = .slice (some ⟨gw, 0, none⟩) k (len + 1) ∧ Hid (WS w wc gw (len + 1) k ws))
          case first =>
            obtain ⟨l, hll, hlsol, hcv⟩ := J3.out.str_take hl 9 hl9 (by omega)
            have hcv' : (convert 28 9 (.slice (some ⟨w.heap.size + 1, 0, none⟩) hl 9)).run Ybaf.prog W3 = .ok (.string (toB l)) W3 := hcv
            have HL : Hid (Solid l ∧ l ≠ [] ∧ l.length ≤ 9) := ⟨hlsol, fun e => by subst e; simp at hll; omega, by omega⟩
            have hsl := slice24 W3 (w.heap.size + 1) hl hl7 hl9
            clear hcv hll hlsol
            have OW : Hid ((W3.alloc (.cells #[.string (toB l)] 9)).ownsRow w.heap.size 9 1 (.slice (some ⟨gw, 0, none⟩) 0 (len + 1)) 0 []) := row_below S3.out.row ((Below.refl W3.heap.size W3).alloc (Nat.le_refl _) _) (S3.out.row.lt gw rfl).2
            go_wp2_with (at_builtin; refine wpList_append_fits _ rfl _ _ 27 rfl w.heap.size 9 i9 1 Ybaf.underlying27 hi9 hz1 gw 0 (len + 1) [] rfl OW.out ⟨W3.heap.size, 0, none⟩ 1 1 [.string (toB l)] rfl rfl ?c1 ?c2 ?c3 ?_)
            case c1 => exact (one_new W3 (toB l)).1
            case c2 => exact (one_new W3 (toB l)).2
            case c3 => omega
            · intro W4 hown hg
              have S4 : Hid (WS w W4 gw (len + 1) 1 ([] ++ [l])) := S3.out.push ((Below.refl _ _).alloc (Nat.le_refl _) _) l HL.out hown hg
              clear hown hg hcv' hsl OW
              go_wp2_with fail
              go_meet
              case rel => exact ⟨1, _, Nat.le_refl _, rfl, S4⟩
            · go_meet
              case rel => exact ⟨0, _, by omega, rfl, S3⟩
          case rest =>
            clear S3 J3 hl7 hl9
            obtain ⟨k0, ws0, hk0, rfl, S4⟩ := hcut
            go_wp2
            go_loopw [72, 13, 15] (fun s72 s13 _ wr => ∃ (k : Nat) (ws : List (List UInt8)), k ≤ len ∧ s72 = .int .i64 k ∧ s13 = .slice (some ⟨gw, 0, none⟩) (k0 + k) (len + 1) ∧ Hid (WS w wr gw (len + 1) (k0 + k) ws)) (fun s72 _ _ _ => len - (intOf s72).toNat)
            case atStart => exact ⟨0, ws0, Nat.zero_le _, rfl, rfl, S4⟩
            case round =>
              clear S4
              obtain ⟨k, ws, hk, rfl, rfl, S5⟩ := hrel
              by_cases hlt : k < len
              · obtain rfl := HX.out.1 (by omega)
                have hlt' : (k : Int) < (len : Int) := by omega
                have ck := cell_later S5.out.bel (HX.out.2.1 k hlt)
                have XB : Hid (0 ≤ xs.getD k 0 ∧ xs.getD k 0 < 4294967296) := HX.out.2.2 k hlt
                generalize xs.getD k 0 = x at ck XB
                go_wp2_with fail
                refine (word_any x XB.out.1 XB.out.2 _).mono ?_
                rintro e w2 ⟨l, rfl, h3, h5, hsol, hb⟩
                have HL : Hid (Solid l ∧ l ≠ [] ∧ l.length ≤ 9) := ⟨hsol, fun e => by subst e; simp at h3, by omega⟩
                have B2 : Hid (Below wr.heap.size wr w2) := hb
                have OW : Hid ((w2.alloc (.cells #[.string (toB l)] 9)).ownsRow w.heap.size 9 1 (.slice (some ⟨gw, 0, none⟩) (k0 + k) (len + 1)) (k0 + k) (ws.map fun l => Value.string (toB l))) := row_below S5.out.row (B2.out.alloc B2.out.size _) (S5.out.row.lt gw rfl).2
                have es : (⟨l.toArray⟩ : ByteArray) = toB l := rfl
                rw [es]
                clear hb hsol h3 h5 ck es
                go_wp2_with (at_builtin; refine wpList_append_fits _ rfl _ _ 27 rfl w.heap.size 9 i9 1 Ybaf.underlying27 hi9 hz1 gw (k0 + k) (len + 1) (ws.map fun l => Value.string (toB l)) rfl OW.out ⟨w2.heap.size, 0, none⟩ 1 1 [.string (toB l)] rfl rfl ?d1 ?d2 ?d3 ?_)
                case d1 => exact (one_new w2 (toB l)).1
                case d2 => exact (one_new w2 (toB l)).2
                case d3 => omega
                intro W4 hown hg
                have S6 : Hid (WS w W4 gw (len + 1) (k0 + k + 1) (ws ++ [l])) := S5.out.push (B2.out.alloc B2.out.size _) l HL.out hown hg
                clear hown hg OW
                go_wp2
                go_roundw
                case rel => exact ⟨k + 1, _, by omega, by go_num, rfl, S6⟩
                case measure => simp [intOf]; omega
              · have hke : k = len := by omega
                have hlt' : decide ((k : Int) < (len : Int)) = false := decide_eq_false (by omega)
                have hlt2 : decide (k < len) = false := decide_eq_false hlt
                rename World => W5
                go_upto_if 84 with fail
                have S6 : Hid (WS w W5 gw (len + 1) (k0 + k) ws) := S5
                have BS0 : Hid (BS W5 (W5.alloc (.cells #[.pointer none, .slice none 0 0] 33)) W5.heap.size []) := BS.fresh W5
                have hn : k0 + k ≤ 1025 := by omega
                clear S5 hke hlt hlt' hlt2 hk hk0
                generalize (W5.alloc (.cells #[.pointer none, .slice none 0 0] 33)) = W6 at BS0
                generalize hbb : W5.heap.size = bb at BS0
                clear hbb
                generalize k0 + k = n at S6 hn
                have hse := HN.out.2
                go_cut [] (fun wc => ∃ pre : List UInt8, Hid (Pad pre ∧ BS W5 wc bb pre))
                case first =>
                  go_wp2_with fail
                  · refine (sep_any sep _).mono ?_
                    rintro e w2 ⟨rfl, rfl⟩
                    have es : (⟨(sepOf sep).toArray⟩ : ByteArray) = toB (sepOf sep) := rfl
                    rw [es]
                    clear es
                    go_wp2_with fail
                    refine (BS0.out.write (sepOf sep) (by have := (sepOf_facts sep).2.2.1; simp; omega)).mono ?_
                    rintro e w3 ⟨rfl, hb⟩
                    have B3 : Hid (BS W5 w3 bb ([] ++ sepOf sep)) := hb
                    clear hb
                    go_wp2_with fail
                    go_meet
                    case rel => exact ⟨_, Pad.sep sep, B3.out⟩
                  · go_meet
                    case rel => exact ⟨_, Pad.nil, BS0.out⟩
                case rest =>
                  clear BS0
                  obtain ⟨pre, HP⟩ := hcut
                  have BL : Hid (∀ j, (bufAt sep pre ws j).length ≤ 3 + 12 * j) := bufAt_len sep pre ws HP.out.1.2.1 (fun j => (S6.out.each j).2.2)
                  go_wp2
                  go_loopw [91, 17, 18] (fun s91 _ _ wx => ∃ j : Nat, j ≤ n ∧ s91 = .int .i64 j ∧ Hid (BS W5 wx bb (bufAt sep pre ws j))) (fun s91 _ _ _ => n - (intOf s91).toNat)
                  case atStart => exact ⟨0, Nat.zero_le _, rfl, HP.out.2⟩
                  case round =>
                    obtain ⟨j, hj, rfl, BK⟩ := hrel
                    by_cases hlt : j < n
                    · have hlt' : (j : Int) < (n : Int) := by omega
                      have cj := (BK.out.ws S6.out).at j hlt
                      have W9 : Hid ((ws.getD j []).length ≤ 9) := (S6.out.each j).2.2
                      by_cases hj0 : j = 0
                      · subst hj0
                        have EB : Hid (bufAt sep pre ws 1 = bufAt sep pre ws 0 ++ ws.getD 0 []) := by show _ = _; simp [bufAt]
                        have L0 : Hid ((bufAt sep pre ws 0).length ≤ 3 + 12 * 0) := BL.out 0
                        generalize ws.getD 0 [] = l at cj W9 EB
                        go_wp2_with fail
                        refine (BK.out.write l (by have := W9.out; have := L0.out; omega)).mono ?_
                        rintro e w3 ⟨rfl, hb⟩
                        have B3 : Hid (BS W5 w3 bb (bufAt sep pre ws 1)) := by rw [EB.out]; exact hb
                        clear hb
                        go_wp2
                        go_roundw
                        case rel => exact ⟨1, by omega, by go_num, B3⟩
                        case measure => simp [intOf]; omega
                      · have hj0' : (0 : Int) < (j : Int) := by omega
                        have EB : Hid (bufAt sep pre ws (j + 1) = (bufAt sep pre ws j ++ sepOf (sep + j)) ++ ws.getD j []) := by show _ = _; rw [bufAt, if_neg hj0]
                        have L0 : Hid ((bufAt sep pre ws j).length ≤ 3 + 12 * j) := BL.out j
                        have LS : Hid ((sepOf (sep + j)).length ≤ 3) := (sepOf_facts (sep + j)).2.2.1
                        generalize ws.getD j [] = l at cj W9 EB
                        have ea : ((sep : Int) + (j : Int)) = ((sep + j : Nat) : Int) := by omega
                        have SEP : Hid (∀ W : World, Calls Ybaf.prog 7 #[.int .i64 ((sep : Int) + (j : Int))] W fun e w' => e = .returned (.string (toB (sepOf (sep + j)))) ∧ w' = W) := fun W => by rw [ea]; exact sep_any (sep + j) W
                        clear ea
                        go_wp2_with fail
                        refine (SEP.out _).mono ?_
                        rintro e w2 ⟨rfl, rfl⟩
                        go_wp2_with fail
                        refine (BK.out.write (sepOf (sep + j)) (by have := L0.out; have := LS.out; omega)).mono ?_
                        rintro e w3 ⟨rfl, hb⟩
                        have B3 : Hid (BS W5 w3 bb (bufAt sep pre ws j ++ sepOf (sep + j))) := hb
                        clear hb cj
                        go_wp2_with fail
                        refine (B3.out.write l (by have := W9.out; have := L0.out; have := LS.out; rw [List.length_append]; omega)).mono ?_
                        rintro e w4 ⟨rfl, hb⟩
                        have B4 : Hid (BS W5 w4 bb (bufAt sep pre ws (j + 1))) := by rw [EB.out]; exact hb
                        clear hb
                        go_wp2
                        go_roundw
                        case rel => exact ⟨j + 1, by omega, by go_num, B4⟩
                        case measure => simp [intOf]; omega
                    · have hje : j = n := by omega
                      have hlt' : decide ((j : Int) < (n : Int)) = false := decide_eq_false (by omega)
                      have hlt2 : decide (j < n) = false := decide_eq_false hlt
                      have B5 : Hid (BS W5 wr bb (bufAt sep pre ws ws.length)) := by rw [S6.out.len, ← hje]; exact BK.out
                      clear BK hje hlt hj
                      go_upto_if 109 with fail
                      rename World => W7
                      go_cut [] (fun wc => ∃ post : List UInt8, Hid (Pad post ∧ BS W5 wc bb (bufAt sep pre ws ws.length ++ post)))
                      case first =>
                        go_wp2_with fail
                        · have ea : ((sep : Int) + 7) = ((sep + 7 : Nat) : Int) := by omega
                          have SEP : Hid (∀ W : World, Calls Ybaf.prog 7 #[.int .i64 ((sep : Int) + 7)] W fun e w' => e = .returned (.string (toB (sepOf (sep + 7)))) ∧ w' = W) := fun W => by rw [ea]; exact sep_any (sep + 7) W
                          clear ea
                          refine (SEP.out _).mono ?_
                          rintro e w2 ⟨rfl, rfl⟩
                          go_wp2_with fail
                          refine (B5.out.write (sepOf (sep + 7)) (by have h1 := BL.out ws.length; have h2 := (sepOf_facts (sep + 7)).2.2.1; have h3 := S6.out.len; rw [h3] at h1 ⊢; omega)).mono ?_
                          rintro e w3 ⟨rfl, hb⟩
                          have B6 : Hid (BS W5 w3 bb (bufAt sep pre ws ws.length ++ sepOf (sep + 7))) := hb
                          clear hb
                          go_wp2_with fail
                          go_meet
                          case rel => exact ⟨_, Pad.sep _, B6.out⟩
                        · go_meet
                          case rel => exact ⟨[], Pad.nil, by rw [List.append_nil]; exact B5.out⟩
                      case rest =>
                        clear B5
                        obtain ⟨post, HQ⟩ := hcut
                        have FB : Hid (Lib.fields (bufAt sep pre ws ws.length ++ post) = ws ∧ (bufAt sep pre ws ws.length ++ post).length ≤ 100000 ∧ ∀ b ∈ bufAt sep pre ws ws.length ++ post, b.toNat < 128) := by
                          refine ⟨fields_built sep pre post ws HP.out.1.1 HQ.out.1.1 (fun j hj => ⟨(S6.out.each j).1, (S6.out.each j).2.1 hj⟩), ?_, ?_⟩
                          · have h1 := BL.out ws.length
                            have h3 := S6.out.len
                            have h4 := HQ.out.1.2.1
                            rw [List.length_append]
                            rw [h3] at h1 ⊢
                            omega
                          · intro b hb
                            rcases List.mem_append.1 hb with h | h
                            · exact bufAt_ascii sep pre ws HP.out.1.2.2 (fun j => (S6.out.each j).1) _ b h
                            · exact HQ.out.1.2.2 b h
                        have B7 : Hid (BS W5 wc bb (bufAt sep pre ws ws.length ++ post)) := HQ.out.2
                        clear HQ HP BL
                        generalize bufAt sep pre ws ws.length ++ post = f at FB B7
                        go_wp2_with fail
                        refine (Ybaf.Builder_String_any bb bb f wc B7.out.bld B7.out.le).mono ?_
                        rintro e w8 ⟨rfl, hb⟩
                        have S8 : Hid (WS w w8 gw (len + 1) n ws) := S6.out.below (by rw [← B7.out.eq]; exact B7.out.bel.trans hb)
                        have es : (⟨f.toArray⟩ : ByteArray) = toB f := rfl
                        rw [es]
                        clear hb es B7 S6
                        go_wp2_with fail
                        refine (cok_any (some ⟨gw, 0, none⟩) gw n (len + 1) (ws.map toB) _ (by rw [List.length_map]; exact S8.out.len) (by omega) (fun _ => rfl) S8.out.rows (fun j hj => by
                          have h9 := (S8.out.each j).2.2
                          have hj' : j < ws.length := by rw [S8.out.len]; exact hj
                          have e : (ws.map toB).getD j ByteArray.empty = toB (ws.getD j []) := by simp [List.getD_eq_getElem?_getD, hj']
                          rw [e]
                          show (ws.getD j []).length ≤ 1000
                          omega)).mono ?_
                        rintro e w9 ⟨rfl, rfl⟩
                        go_wp2_with (first | refine wpList_build49 rfl rfl ?_ | refine wpList_alloc49 rfl rfl ?_ | refine wpList_store49 (w0 := w9) rfl _ _ rfl rfl rfl ?_)
                        obtain ⟨cur0, hcur0⟩ : ∃ c, c = plan0 := ⟨_, rfl⟩
                        rw [← hcur0]
                        have HC : Hid (IsPlan0 cur0) := by rw [hcur0]; exact isPlan0
                        clear hcur0
                        have P9 : Hid ((w9.alloc (.cells cur0 49)).heap[w9.heap.size]? = some (.cells cur0 49 (0, 0))) := alloc_at w9 cur0
                        have BA : Hid (Below w9.heap.size w9 (w9.alloc (.cells cur0 49))) := (Below.refl _ _).alloc (Nat.le_refl _) _
                        have S9 : Hid (WS w (w9.alloc (.cells cur0 49)) gw (len + 1) n ws) := S8.out.below BA.out
                        have RD : Hid (Calls Ybaf.prog 10 #[.pointer (some ⟨w9.heap.size, 0, none⟩), .string (toB f)] (w9.alloc (.cells cur0 49)) fun e w' => (okB (ws.map toB) = false ∧ Refused (w9.alloc (.cells cur0 49)) w' e) ∨ (okB (ws.map toB) = true ∧ Taken (w9.alloc (.cells cur0 49)) w' w9.heap.size cur0 (ws.map toB) e)) :=
                          read_any F w9.heap.size cur0 f (w9.alloc (.cells cur0 49)) (by rw [S9.out.bel.tape]; exact HFT.out.1) P9.out HC.out.1 FB.out.2.1 FB.out.2.2 ((Lib.tabBelow_of_tabIs HFT.out.2) _ S9.out.bel) (ws.map toB) (by rw [FB.out.1]) (by rw [List.length_map, S9.out.len]; omega)
                        have hpl : w9.heap.size < (w9.alloc (.cells cur0 49)).heap.size := by simp
                        have HGW : Hid (gw < w9.heap.size ∧ w.heap.size ≤ w9.heap.size) := ⟨(S8.out.row.lt gw rfl).2, S8.out.bel.size⟩
                        generalize (w9.alloc (.cells cur0 49)) = W9 at P9 BA S9 RD hpl
                        generalize w9.heap.size = pb at P9 BA S9 RD hpl HGW
                        have HPL : Hid (pb < W9.heap.size) := hpl
                        clear hpl
                        refine RD.out.mono ?_
                        intro e w10 hres
                        rcases hres with ⟨hok, hrf⟩ | ⟨hok, htk⟩
                        · obtain ⟨rb, t, rfl, hrb, hb10⟩ := hrf
                          have e0 := rej_cell hrb
                          obtain ⟨d1, d17, d18, d19⟩ := HC.out.cells (w := w10) (pb := pb) (by rw [hb10.block _ HPL.out]; exact P9.out)
                          have RES : Hid (Below w.heap.size w w10) := S9.out.bel.trans (hb10.mono S9.out.bel.size)
                          have ne := nil_eql w10
                          rw [hok]
                          clear hok hrb hb10 P9 BA
                          go_wp2
                          go_ret
                          exact ⟨rfl, RES.out⟩
                        · obtain ⟨rfl, g, o, m, hm, hrow, hp10, hch⟩ := htk
                          have h0l : 0 < (ws.map toB).length := by omega
                          have h8 := okB_size8 h0l hok
                          obtain ⟨d1, d17, d18, d19⟩ := HC.out.taken hp10
                          have R10 : Hid (RowS w10 gw 0 (ws.map toB)) := S9.out.rows.ch (by have := HGW.out.1; have := HPL.out; omega) (by have := HGW.out.1; omega) hch
                          have c0 := R10.out 0 h0l
                          have RES : Hid (Below w.heap.size w w10) := (Ch.trans (S := fun k => w.heap.size ≤ k) (Ch.ofBelow S9.out.bel) hch (fun x _ e => by have := HGW.out.2; omega)).toBelow (Nat.le_refl _) (fun x _ h => h)
                          have HRW : Hid (RowS w10 g o (ws.map toB).tail) := hrow
                          have HM : Hid (m + 1 = (ws.map toB).length) := hm
                          have HNM : Hid (n = m + 1) := by have h1 := S9.out.len; rw [List.length_map] at hm; show _ = _; omega
                          rw [hok]
                          generalize (ws.map toB).getD 0 ByteArray.empty = s at c0 h8 d17 d18
                          have hne := fun W' => slice_neq_nil W' g o m
                          clear hok hp10 hch hrow hm P9 BA h0l
                          obtain rfl := HNM.out
                          go_wp2
                          have k17 := cell_regrown d17
                          have k18 := cell_regrown d18
                          have k19 := cell_regrown d19
                          have k0 := cell_regrown c0
                          clear d1 d17 d18 d19 c0
                          by_cases hl0 : len = 0
                          · subst hl0
                            have hm0 : m = 0 := by have := S9.out.cap_le; omega
                            subst hm0
                            have RW : Hid (RowS w10 gw 0 (ws.map toB).tail) := by
                              have e : (ws.map toB).tail = [] := List.eq_nil_of_length_eq_zero (by rw [List.length_tail]; have := HM.out; omega)
                              rw [e]; exact RowS.nil _ _ _
                            have EQ : Hid (∀ d os, Calls Ybaf.prog 11 #[.slice (some ⟨g, o, none⟩) 0 0, .slice (some ⟨gw, 0, none⟩) 0 0] (grow (redrawn w10 d) os) fun e w'' => e = .returned (.bool true) ∧ ∃ p : Regrown, w'' = grow (redrawn w10 p.d) p.os) := fun d os => by
                              have hg := below_regrown w10 d os
                              exact Calls.regrown_of (equal_any g o gw 0 0 0 0 (ws.map toB).tail _ (by have h1 := HM.out; rw [List.length_tail]; omega) (by have := S9.out.cap_le; have := S9.out.len; have := HM.out; rw [List.length_map] at this; omega) (HRW.out.regrown hg) (RW.out.regrown hg))
                            refine wp_region_quiet_below (by kernel_rfl) (by kernel_rfl) ?_
                            repeat (quiet_step (exact EQ.out _ _))
                            refine wpQuiet_nil ?_
                            intro _ hw'
                            obtain ⟨⟨dq, osq⟩, hw''⟩ := hw'
                            subst hw''
                            go_wp2
                            go_ret
                            exact ⟨rfl, RES.out.trans ((below_regrown w10 dq osq).mono RES.out.size)⟩
                          · have hl0' : ∀ W' : World, (Instr.slice 27 (.slice (some ⟨gw, 0, none⟩) (m + 1) (len + 1)) (some (.int .i64 1)) none none).run Ybaf.prog W' = .ok (.slice (some ⟨gw, 1, none⟩) m len) W' := fun W' => slice1 W' gw m len hl0
                            have RW : Hid (RowS w10 gw 1 (ws.map toB).tail) := R10.out.tail
                            have EQ : Hid (∀ d os, Calls Ybaf.prog 11 #[.slice (some ⟨g, o, none⟩) m m, .slice (some ⟨gw, 1, none⟩) m len] (grow (redrawn w10 d) os) fun e w'' => e = .returned (.bool true) ∧ ∃ p : Regrown, w'' = grow (redrawn w10 p.d) p.os) := fun d os => by
                              have hg := below_regrown w10 d os
                              exact Calls.regrown_of (equal_any g o gw 1 m m len (ws.map toB).tail _ (by have h1 := HM.out; rw [List.length_tail]; omega) (by have := S9.out.cap_le; have := S9.out.len; have := HM.out; rw [List.length_map] at this; omega) (HRW.out.regrown hg) (RW.out.regrown hg))
                            refine wp_region_quiet_below (by kernel_rfl) (by kernel_rfl) ?_
                            repeat (quiet_step (exact EQ.out _ _))
                            refine wpQuiet_nil ?_
                            intro _ hw'
                            obtain ⟨⟨dq, osq⟩, hw''⟩ := hw'
                            subst hw''
                            go_wp2
                            go_ret
                            exact ⟨rfl, RES.out.trans ((below_regrown w10 dq osq).mono RES.out.size)⟩
end Go.Proofs.YbulkdefyFmt
