/-
  OWN WORK. zzs5280bbuild, its first half: the Map's texts.
-/
import Derived.Test.YbulkdeicDoorIds
import Derived.Test.YbulkdeicDoorItoa
import Derived.Test.YbulkdeicDoorBufN
import Derived.Test.YbulkdeicDoorBig
import Derived.Deep.RegionLaw
namespace Go.Proofs
theorem Ybad.info9 : (Ybad.prog.info? 9).map (fun i => (i.zero, i.size, i.bytes)) = some (some (.string ⟨#[]⟩), 1, 16) := by kernel_rfl
theorem Ybad.info62 : (Ybad.prog.info? 62).map (fun i => (i.zero, i.size, i.bytes)) = some (some (.int .u32 0), 1, 4) := by kernel_rfl
theorem Ybad.info67 : (Ybad.prog.info? 67).map (fun i => (i.zero, i.size, i.bytes)) = some (some (.agg #[.int .i32 0, .int .i32 0]), 2, 8) := by kernel_rfl
end Go.Proofs
namespace Go.Proofs.YbulkdeicDoor
open Go.RowKit

theorem Own.ne_own {w : World} {e e' : TypeId} {s s' n n' : Nat} {v v' : Value} {xs xs' : List Value} (h : Own w e s v n xs) (h' : Own w e' s' v' n' xs') (he : e ≠ e') : ∀ k, v.ownBlock = some k → v'.ownBlock ≠ some k := by
  intro k hk hk'
  obtain ⟨_, cur, h1⟩ := h.at k hk
  obtain ⟨_, cur', h2⟩ := h'.at k hk'
  rw [h1] at h2
  cases h2
  exact he rfl

/-- The first text. -/
abbrev d0 : ByteArray := ⟨#[100, 48]⟩

/-- Where the first k texts end. -/
def endsOf (ids : List ByteArray) : List Nat := (List.range ids.length).map fun k => (flat (ids.take (k + 1))).length

theorem endsOf_get {ids : List ByteArray} {k : Nat} (h : k < ids.length) : (endsOf ids)[k]? = some (flat (ids.take (k + 1))).length := by simp [endsOf, h]

def endCells (ids : List ByteArray) (k : Nat) : List Value := (List.range k).map fun j => Value.int .u32 (((flat (ids.take (j + 1))).length : Nat) : Int)

theorem endCells_succ (ids : List ByteArray) (k : Nat) : endCells ids (k + 1) = endCells ids k ++ [.int .u32 (((flat (ids.take (k + 1))).length : Nat) : Int)] := by simp [endCells, List.range_succ]

/-- 'append(s, nil...)'. -/
theorem run_append_none {P : Program} (w : World) (t ty e : TypeId) (i : TypeInfo) (ht : P.underlying t = some (.slice e)) (hi : P.info? e = some i) (g n c c' : Nat) (hc : n ≤ c) :
    (Builtin.append_ #[t, t] ty #[.slice (some ⟨g, 0, none⟩) n c, .slice none 0 c']).run P w = .ok (.slice (some ⟨g, 0, none⟩) n c) w := by
  simp [Builtin.append_, run_underlying ht, sizeOf, typeInfo, hi, Builtin.lenOf, Builtin.firstCells, hc, storeCells]

theorem wpList_append_any {P : Program} (w : World) {ops : Array Oper} {rest : List Oper} {o : Oper} {a : Act} {Q : Exit → Act → World → Prop} (hgd : o.guard = none) (s x : Operand) (t : TypeId)
    (ho : o.op = .call { callee := .builtin .append, args := #[s, x], argTypes := #[t, t] })
    (e : TypeId) (i : TypeInfo) (z : Value) (size bytes : Nat) (ht : P.underlying t = some (.slice e)) (hi : P.info? e = some i) (hz : i.zero = some z)
    (hsize : i.size = size) (hby : i.bytes = bytes) (hzs : z.cells.size = size) (hsz : 0 < size)
    (v : Value) (n : Nat) (xs : List Value) (hs : a.eval s = v) (hown : Own w e size v n xs) (hn : 0 < n)
    (ao : Option Addr) (m c : Nat) (news : List Value) (hx : a.eval x = .slice ao m c) (h0 : ao = none → m = 0) (hl : news.length = m * size) (hnews : ∀ ad, ao = some ad → ∀ j u, news[j]? = some u → w.cell? (ad.add j) = some u) (h1 : ∀ u ∈ news, u.oneCell' = true)
    (h63 : n + m ≤ maxLen) (hbytes : (n + m) * bytes ≤ 140737488355328)
    (h : ∀ ao' cap' w', Own w' e size (.slice ao' (n + m) cap') (n + m) (xs ++ news) → Ch (fun k => v.ownBlock = some k) w w' → Fresh w v (.slice ao' (n + m) cap') → wpList P ops Q rest (a.put o.dst (.slice ao' (n + m) cap')) w') : wpList P ops Q (o :: rest) a w := by
  cases ao with
  | some ad => exact wpList_append_Own w hgd s x t ho e i z size bytes ht hi hz hsize hby hzs hsz v n xs hs hown ad m c news hx hl (hnews ad rfl) h1 h63 hbytes h
  | none =>
    obtain rfl := h0 rfl
    obtain rfl : news = [] := List.eq_nil_of_length_eq_zero (by simpa using hl)
    obtain ⟨g, cap, rfl, hcap⟩ := hown.some_of hn
    refine wpList_plain hgd fun K hK => ?_
    have hr := run_append_none (P := P) w t o.type e i ht hi g n cap c hcap
    unfold Oper.wp execOp
    simp only [ho, resolve, invoke, builtin, Sem.run_bind, Sem.run_pure, Result.andThen_ok, List.map_toArray, List.map_cons, List.map_nil, hs, hx, hr]
    exact hK _ _ (h (some ⟨g, 0, none⟩) cap w (by simpa using hown) (Ch.refl _ _) (fun k hk => .inl hk))

theorem cell_lt {w : World} {a : Addr} {v : Value} (h : w.cell? a = some v) : a.block < w.heap.size := by
  rcases Nat.lt_or_ge a.block w.heap.size with h' | h'
  · exact h'
  · unfold World.cell? at h
    rw [Array.getElem?_eq_none h'] at h
    cases h

theorem Ch.cell {S : Nat → Prop} {w w' : World} {a : Addr} {v : Value} (hc : Ch S w w') (h : w.cell? a = some v) (hs : ¬ S a.block) : w'.cell? a = some v := by
  rw [World.cell?_of_block (hc.block a.block (cell_lt h) hs), h]

/-- What stands while the texts are laid: k ends, the bytes of kb texts. -/
structure Bl (w wr : World) (bm gf : Nat) (ids : List ByteArray) (k kb : Nat) (iv en ad bu dp : Value) : Prop where
  map : MapAt wr bm (.slice (some ⟨gf, 0, none⟩) 1 1) en ad bu dp
  adr : AddrOf bm ad
  row : Own wr 9 1 iv ids.length (ids.map Value.string)
  first : wr.heap[gf]? = some (.cells #[.int .i32 0] 21 (0, 0))
  ends : Own wr 62 1 en k (endCells ids k)
  bytes : Own wr 5 1 bu (flat (ids.take kb)).length (Lib.byteCells (flat (ids.take kb)))
  ch : Ch (fun _ => False) w wr
  bmN : w.heap.size ≤ bm
  gfN : w.heap.size ≤ gf
  enN : ∀ j, en.ownBlock = some j → w.heap.size ≤ j
  buN : ∀ j, bu.ownBlock = some j → w.heap.size ≤ j

section
variable {w wr : World} {bm gf : Nat} {ids : List ByteArray} {k kb : Nat} {iv en ad bu dp : Value}

theorem Bl.start {w3 : World} (h : Own w3 9 1 iv ids.length (ids.map Value.string)) (hc : Ch (fun _ => False) w w3) :
    Bl w ((w3.alloc (.cells (mapCells (.slice (some ⟨w3.heap.size + 1, 0, none⟩) 1 1) (.slice none 0 0) (.pointer none) (.slice none 0 0) (.slice none 0 0)) 58)).alloc (.cells #[.int .i32 0] 21)) w3.heap.size (w3.heap.size + 1) ids 0 0 iv (.slice none 0 0) (.pointer none) (.slice none 0 0) (.slice none 0 0) := by
  have hs := hc.size
  refine ⟨?_, .inl rfl, (h.alloc _).alloc _, ?_, by simpa [endCells] using Own.nil _ 62 1, by simpa [flat, Lib.byteCells] using Own.nil _ 5 1, (hc.alloc _).alloc _, hs, by omega, by simp [Value.ownBlock], by simp [Value.ownBlock]⟩
  · unfold MapAt
    rw [Below.heap_alloc _ _ _ (by simp)]
    exact heap_alloc_new _ _
  · have := heap_alloc_new (w3.alloc (.cells (mapCells (.slice (some ⟨w3.heap.size + 1, 0, none⟩) 1 1) (.slice none 0 0) (.pointer none) (.slice none 0 0) (.slice none 0 0)) 58)) (.cells #[.int .i32 0] 21)
    simpa using this

theorem Bl.apart (h : Bl w wr bm gf ids k kb iv en ad bu dp) : bm ≠ gf ∧ iv.ownBlock ≠ some bm ∧ iv.ownBlock ≠ some gf ∧ en.ownBlock ≠ some bm ∧ en.ownBlock ≠ some gf ∧ bu.ownBlock ≠ some bm ∧ bu.ownBlock ≠ some gf := by
  refine ⟨?_, h.row.ne h.map (by decide), h.row.ne h.first (by decide), h.ends.ne h.map (by decide), h.ends.ne h.first (by decide), h.bytes.ne h.map (by decide), h.bytes.ne h.first (by decide)⟩
  rintro rfl
  have := h.first
  have h2 := h.map
  unfold MapAt at h2
  rw [h2] at this
  cases this

theorem Bl.wrote (h : Bl w wr bm gf ids k k iv en ad bu dp) {w' : World} {ao : Option Addr} {cap : Nat} {s : ByteArray} (hs : ids[k]? = some s)
    (h1 : MapAt w' bm (.slice (some ⟨gf, 0, none⟩) 1 1) en (.pointer (some ⟨bm, 14, none⟩)) (.slice ao ((flat (ids.take k)).length + s.size) cap) dp) (h2 : Own w' 5 1 (.slice ao ((flat (ids.take k)).length + s.size) cap) ((flat (ids.take k)).length + s.size) (Lib.byteCells (flat (ids.take k)) ++ Lib.strCells s))
    (h3 : Ch (fun j => j = bm ∨ bu.ownBlock = some j) wr w') (h4 : Fresh wr bu (.slice ao ((flat (ids.take k)).length + s.size) cap)) :
    Bl w w' bm gf ids k (k + 1) iv en (.pointer (some ⟨bm, 14, none⟩)) (.slice ao ((flat (ids.take k)).length + s.size) cap) dp := by
  obtain ⟨a1, a2, a3, a4, a5, a6, a7⟩ := h.apart
  have e1 : flat (ids.take (k + 1)) = flat (ids.take k) ++ s.data.toList := by
    rw [take_succ_of hs, flat_append]
    congr 1
    unfold flat
    simp only [List.flatMap_cons, List.flatMap_nil, List.append_nil]
  have e2 : (flat (ids.take (k + 1))).length = (flat (ids.take k)).length + s.size := by rw [e1, List.length_append]; rfl
  refine ⟨h1, .inr rfl, h.row.ch h3 ?_, ?_, h.ends.ch h3 ?_, ?_, h.ch.trans h3 ?_, h.bmN, h.gfN, h.enN, ?_⟩
  · rintro j hj (e | e)
    · exact a2 (by rw [← e]; exact hj)
    · exact h.row.ne_own h.bytes (by decide) j hj e
  · refine (h3.block gf (Array.getElem?_eq_some_iff.1 h.first).1 ?_).trans h.first
    rintro (e | e)
    · exact a1 e.symm
    · exact a7 e
  · rintro j hj (e | e)
    · exact a4 (by rw [← e]; exact hj)
    · exact h.ends.ne_own h.bytes (by decide) j hj e
  · rw [e2, e1, Lib.byteCells_append]
    exact h2
  · rintro x hx (e | e)
    · have := h.bmN; omega
    · have := h.buN x e; omega
  · intro j hj
    rcases h4 j hj with r | r
    · exact h.buN j r
    · have := h.ch.size; omega

theorem Bl.ended (h : Bl w wr bm gf ids k (k + 1) iv en ad bu dp) {w2 : World} {v' : Value} (hk : Own w2 62 1 v' (k + 1) (endCells ids k ++ [.int .u32 (((flat (ids.take (k + 1))).length : Nat) : Int)]))
    (h3 : Ch (fun j => en.ownBlock = some j) wr w2) (h4 : Fresh wr en v') : Bl w (w2.setCell ⟨bm, 13, none⟩ v') bm gf ids (k + 1) (k + 1) iv v' ad bu dp := by
  obtain ⟨a1, a2, a3, a4, a5, a6, a7⟩ := h.apart
  have m2 : MapAt w2 bm (.slice (some ⟨gf, 0, none⟩) 1 1) en ad bu dp := h.map.ch h3 a4
  rw [← endCells_succ] at hk
  refine ⟨m2.put13 _, h.adr, (h.row.ch h3 (fun j hj e => h.row.ne_own h.ends (by decide) j hj e)).setCell _ _ a2, ?_, hk.setCell _ _ (hk.ne m2 (by decide)), (h.bytes.ch h3 (fun j hj e => h.bytes.ne_own h.ends (by decide) j hj e)).setCell _ _ a6, ?_, h.bmN, h.gfN, ?_, h.buN⟩
  · rw [Below.heap_setCell _ _ _ _ a1.symm]
    exact (h3.block gf (Array.getElem?_eq_some_iff.1 h.first).1 a5).trans h.first
  · refine (h.ch.trans h3 ?_).setCell _ _ (fun e => by have := h.bmN; simp at e; omega)
    intro x hx e
    have := h.enN x e
    omega
  · intro j hj
    rcases h4 j hj with r | r
    · exact h.enN j r
    · have := h.ch.size; omega
end

/-- One line of the output. -/
def lineOf (ids : List ByteArray) (r : Nat × Int) : List UInt8 := (ids.getD (r.1 % ids.length) d0).data.toList ++ [9] ++ Lib.itoa r.2 ++ [10]

def wantOf (ids : List ByteArray) (rs : List (Nat × Int)) : List UInt8 := rs.flatMap (lineOf ids)

def dpCells (ids : List ByteArray) (rs : List (Nat × Int)) : List Value := rs.flatMap fun r => [.int .i32 (((r.1 % ids.length : Nat)) : Int), .int .i32 r.2]

theorem dpCells_length (ids : List ByteArray) (rs : List (Nat × Int)) : (dpCells ids rs).length = rs.length * 2 := by
  unfold dpCells
  induction rs with
  | nil => rfl
  | cons r rs ih => simp only [List.flatMap_cons, List.length_append, ih, List.length_cons, List.length_nil]; omega

section
variable {w wr : World} {bm gf : Nat} {ids : List ByteArray} {k kb : Nat} {iv en ad bu dp : Value}

theorem Bl.keep (h : Bl w wr bm gf ids k kb iv en ad bu dp) {S : Nat → Prop} {w' : World} (hc : Ch S wr w') (s1 : ¬ S bm) (s2 : ¬ S gf) (s3 : ∀ j, iv.ownBlock = some j → ¬ S j) (s4 : ∀ j, en.ownBlock = some j → ¬ S j) (s5 : ∀ j, bu.ownBlock = some j → ¬ S j) (s6 : ∀ j, j < w.heap.size → ¬ S j) :
    Bl w w' bm gf ids k kb iv en ad bu dp :=
  ⟨h.map.ch hc s1, h.adr, h.row.ch hc s3, (hc.block gf (Array.getElem?_eq_some_iff.1 h.first).1 s2).trans h.first, h.ends.ch hc s4, h.bytes.ch hc s5, h.ch.trans hc (fun x hx e => s6 x hx e), h.bmN, h.gfN, h.enN, h.buN⟩

/-- What stands while the records are laid: k of them; the lines' text W. -/
structure Dp (w wr : World) (bm gf : Nat) (ids : List ByteArray) (rs : List (Nat × Int)) (iv en ad bu dp wv : Value) (W : List UInt8) : Prop where
  bl : Bl w wr bm gf ids ids.length ids.length iv en ad bu dp
  row : Own wr 67 2 dp rs.length (dpCells ids rs)
  want : Own wr 5 1 wv W.length (Lib.byteCells W)
  dpN : ∀ j, dp.ownBlock = some j → w.heap.size ≤ j
  wvN : ∀ j, wv.ownBlock = some j → w.heap.size ≤ j
  ne : ∀ j, wv.ownBlock = some j → bu.ownBlock ≠ some j

theorem Dp.alloc {rs : List (Nat × Int)} {wv : Value} {W : List UInt8} (h : Dp w wr bm gf ids rs iv en ad bu dp wv W) (o : Obj) : Dp w (wr.alloc o) bm gf ids rs iv en ad bu dp wv W :=
  ⟨h.bl.keep ((Ch.refl (fun _ => False) wr).alloc o) (fun h => h) (fun h => h) (fun _ _ h => h) (fun _ _ h => h) (fun _ _ h => h) (fun _ _ h => h), h.row.alloc o, h.want.alloc o, h.dpN, h.wvN, h.ne⟩

theorem Dp.drewN {rs : List (Nat × Int)} {wv : Value} {W : List UInt8} (h : Dp w wr bm gf ids rs iv en ad bu dp wv W) (q : Nat) : Dp w (wr.drewN q) bm gf ids rs iv en ad bu dp wv W :=
  ⟨h.bl.keep ((Ch.refl (fun _ => False) wr).drewN q) (fun h => h) (fun h => h) (fun _ _ h => h) (fun _ _ h => h) (fun _ _ h => h) (fun _ _ h => h), h.row, h.want, h.dpN, h.wvN, h.ne⟩

theorem Dp.drew {rs : List (Nat × Int)} {wv : Value} {W : List UInt8} (h : Dp w wr bm gf ids rs iv en ad bu dp wv W) : Dp w wr.drew bm gf ids rs iv en ad bu dp wv W :=
  ⟨h.bl.keep ((Ch.refl (fun _ => False) wr).drew) (fun h => h) (fun h => h) (fun _ _ h => h) (fun _ _ h => h) (fun _ _ h => h) (fun _ _ h => h), h.row, h.want, h.dpN, h.wvN, h.ne⟩

/-- The text grown. -/
theorem Dp.put {rs : List (Nat × Int)} {wv v' : Value} {W t : List UInt8} {w' : World} (h : Dp w wr bm gf ids rs iv en ad bu dp wv W) (ho : Own w' 5 1 v' (W ++ t).length (Lib.byteCells (W ++ t))) (hc : Ch (fun j => wv.ownBlock = some j) wr w') (hf : Fresh wr wv v') :
    Dp w w' bm gf ids rs iv en ad bu dp v' (W ++ t) := by
  refine ⟨h.bl.keep hc (h.want.ne h.bl.map (by decide)) (h.want.ne h.bl.first (by decide)) (fun j hj e => h.bl.row.ne_own h.want (by decide) j hj e) (fun j hj e => h.bl.ends.ne_own h.want (by decide) j hj e) (fun j hj e => h.ne j e hj) (fun j hj e => by have := h.wvN j e; omega),
    h.row.ch hc (fun j hj e => h.row.ne_own h.want (by decide) j hj e), ho, h.dpN, fun j hj => ?_, fun j hj e => ?_⟩
  · rcases hf j hj with r | r
    · exact h.wvN j r
    · have := h.bl.ch.size; omega
  · rcases hf j hj with r | r
    · exact h.ne j r e
    · have := (h.bl.bytes.at j e).1; omega

theorem Dp.putS {rs : List (Nat × Int)} {wv v' : Value} {W : List UInt8} {s : ByteArray} {w' : World} (h : Dp w wr bm gf ids rs iv en ad bu dp wv W) (ho : Own w' 5 1 v' (W.length + s.size) (Lib.byteCells W ++ Lib.strCells s)) (hc : Ch (fun j => wv.ownBlock = some j) wr w') (hf : Fresh wr wv v') :
    Dp w w' bm gf ids rs iv en ad bu dp v' (W ++ s.data.toList) := by
  refine h.put ?_ hc hf
  rw [Lib.byteCells_append, List.length_append]
  exact ho

theorem Dp.putB {rs : List (Nat × Int)} {wv v' : Value} {W : List UInt8} {x : UInt8} {w' : World} {o : Obj} (h : Dp w wr bm gf ids rs iv en ad bu dp wv W) (ho : Own w' 5 1 v' (W.length + 1) (Lib.byteCells W ++ [.int .u8 x.toNat])) (hc : Ch (fun j => wv.ownBlock = some j) (wr.alloc o) w') (hf : Fresh (wr.alloc o) wv v') :
    Dp w w' bm gf ids rs iv en ad bu dp v' (W ++ [x]) := by
  refine (h.alloc o).put ?_ hc hf
  rw [Lib.byteCells_append, List.length_append]
  exact ho

/-- A record more. -/
theorem Dp.more {rs : List (Nat × Int)} {wv v' : Value} {W : List UInt8} {r : Nat × Int} {w' : World} (h : Dp w wr bm gf ids rs iv en ad bu dp wv W) (ho : Own w' 67 2 v' (rs.length + 1) (dpCells ids rs ++ [.int .i32 (((r.1 % ids.length : Nat)) : Int), .int .i32 r.2])) (hc : Ch (fun j => dp.ownBlock = some j) wr w') (hf : Fresh wr dp v') :
    (w'.cell? ⟨bm, 25, none⟩ = some dp ∧ w'.frozen? ⟨bm, 25, none⟩ = false) ∧ Dp w (w'.setCell ⟨bm, 25, none⟩ v') bm gf ids (rs ++ [r]) iv en ad bu v' wv W := by
  have b1 := h.bl.keep hc (h.row.ne h.bl.map (by decide)) (h.row.ne h.bl.first (by decide)) (fun j hj e => h.bl.row.ne_own h.row (by decide) j hj e) (fun j hj e => h.bl.ends.ne_own h.row (by decide) j hj e) (fun j hj e => h.bl.bytes.ne_own h.row (by decide) j hj e) (fun j hj e => by have := h.dpN j e; omega)
  have hw1 : Own w' 5 1 wv W.length (Lib.byteCells W) := h.want.ch hc (fun j hj e => h.want.ne_own h.row (by decide) j hj e)
  obtain ⟨a1, a2, a3, a4, a5, a6, a7⟩ := b1.apart
  refine ⟨⟨b1.map.cell 25, b1.map.free 25⟩, ⟨⟨b1.map.put25 _, b1.adr, b1.row.setCell _ _ a2, (Below.heap_setCell _ _ _ _ a1.symm).trans b1.first, b1.ends.setCell _ _ a4, b1.bytes.setCell _ _ a6, b1.ch.setCell _ _ (fun e => by have := b1.bmN; simp at e; omega), b1.bmN, b1.gfN, b1.enN, b1.buN⟩, ?_, hw1.setCell _ _ (hw1.ne b1.map (by decide)), ?_, h.wvN, h.ne⟩⟩
  · have e1 : dpCells ids (rs ++ [r]) = dpCells ids rs ++ [.int .i32 (((r.1 % ids.length : Nat)) : Int), .int .i32 r.2] := by unfold dpCells; simp
    rw [List.length_append, e1]
    exact ho.setCell _ _ (ho.ne b1.map (by decide))
  · intro j hj
    rcases hf j hj with r | r
    · exact h.dpN j r
    · have := h.bl.ch.size; omega
end

theorem cell_two_new (w : World) (x y : Value) (t : TypeId) : ∀ (j : Nat) (u : Value), [x, y][j]? = some u → (w.alloc (.cells #[x, y] t)).cell? ((⟨w.heap.size, 0, none⟩ : Addr).add j) = some u := by
  intro j u hj
  rw [Lib.add_plain, Nat.zero_add, cell_of_row _ _ _ _ _ _ (heap_alloc_new w _)]
  match j, hj with
  | 0, hj => simpa using hj
  | 1, hj => simpa using hj

/-- What zzs5280bbuild leaves. -/
def BuiltPost (ds : List ByteArray) (rs : List (Nat × Int)) (w : World) (e : Ending) (w' : World) : Prop :=
  ∃ bm gf iv en ad bu dp wv, e = .returned (.tuple #[.pointer (some ⟨bm, 0, none⟩), wv]) ∧ Dp w w' bm gf (d0 :: ds) rs iv en ad bu dp wv (wantOf (d0 :: ds) rs)

theorem line_len (ids : List ByteArray) (r : Nat × Int) (h : ∀ s ∈ ids, s.size ≤ 4096) (h1 : -2147483648 ≤ r.2) (h2 : r.2 ≤ 2147483647) : (lineOf ids r).length ≤ 4119 := by
  have e1 : (ids.getD (r.1 % ids.length) d0).data.toList.length ≤ 4096 := by
    rw [List.getD_eq_getElem?_getD]
    cases hq : ids[r.1 % ids.length]? with
    | none => simp
    | some s => exact h s (List.mem_of_getElem? hq)
  have e2 := Lib.itoa_length_le r.2 (by omega) (by omega)
  unfold lineOf
  simp only [List.length_append, List.length_cons, List.length_nil]
  omega

theorem want_len (ids : List ByteArray) (rs : List (Nat × Int)) (h : ∀ s ∈ ids, s.size ≤ 4096) (h1 : ∀ r ∈ rs, -2147483648 ≤ r.2 ∧ r.2 ≤ 2147483647) : (wantOf ids rs).length ≤ rs.length * 4119 := by
  induction rs with
  | nil => simp [wantOf]
  | cons r rs ih =>
    have e1 := ih (fun x hx => h1 x (List.mem_cons_of_mem _ hx))
    have e2 := line_len ids r h (h1 r (List.mem_cons_self ..)).1 (h1 r (List.mem_cons_self ..)).2
    have e3 : wantOf ids (r :: rs) = lineOf ids r ++ wantOf ids rs := rfl
    rw [e3, List.length_append, List.length_cons]
    omega

theorem Dp.ch0 {w wr : World} {bm gf : Nat} {ids : List ByteArray} {iv en ad bu : Value} (h : Bl w wr bm gf ids ids.length ids.length iv en ad bu (.slice none 0 0)) : Dp w wr bm gf ids [] iv en ad bu (.slice none 0 0) (.slice none 0 0) [] :=
  ⟨h, by simpa [dpCells] using Own.nil wr 67 2, by simpa [Lib.byteCells] using Own.nil wr 5 1, by simp [Value.ownBlock], by simp [Value.ownBlock], by simp [Value.ownBlock]⟩

set_option maxHeartbeats 8000000 in
set_option maxRecDepth 100000 in
theorem build (ao ar : Option Addr) (b off cap b2 off2 cr : Nat) (ds : List ByteArray) (rs : List (Nat × Int)) (w : World) (h0 : 0 < ds.length → ao = some ⟨b, off, none⟩) (hc : ∀ j s, ds[j]? = some s → w.cell? ⟨b, off + j, none⟩ = some (.string s))
    (hr0 : 0 < rs.length → ar = some ⟨b2, off2, none⟩) (hrc : ∀ j r, rs[j]? = some r → w.cell? ⟨b2, off2 + j * 2, none⟩ = some (.int .u16 (r.1 : Int)) ∧ w.cell? ⟨b2, off2 + j * 2 + 1, none⟩ = some (.int .i32 r.2) ∧ r.1 < 65536 ∧ -2147483648 ≤ r.2 ∧ r.2 ≤ 2147483647)
    (hsm : Small ds rs.length) :
    Calls Ybad.prog 6 #[.slice ao ds.length cap, .slice ar rs.length cr] w (BuiltPost ds rs w) := by
  obtain ⟨i67, hi67, hz670, hz671, hz672⟩ := info_parts Ybad.info67
  obtain ⟨i5, hi5, hz50, hz51, hz52⟩ := info_parts Ybad.info5
  have HRC := Lib.hid (And.intro hr0 hrc)
  clear hr0 hrc
  obtain ⟨nr, hnr⟩ : ∃ nr, rs.length = nr := ⟨_, rfl⟩
  rw [hnr] at hsm ⊢
  have hnr2 : nr ≤ 1024 := hsm.2.1
  obtain ⟨i9, hi9, hz90, hz91, hz92⟩ := info_parts Ybad.info9
  obtain ⟨i62, hi62, hz620, hz621, hz622⟩ := info_parts Ybad.info62
  obtain ⟨N, hN⟩ : ∃ N, ds.length = N := ⟨_, rfl⟩
  rw [hN] at h0 ⊢
  have hN2 : N ≤ 1024 := by rw [← hN]; exact hsm.1
  have HA := Lib.hid (And.intro h0 (And.intro hc hsm))
  clear h0 hc hsm
  go_enter Ybad.func6, Ybad.ntmps6
  go_wp2_with (at_make; refine wpList_make_any _ rfl _ _ 22 rfl 9 i9 (.string ⟨#[]⟩) 1 Ybad.underlying22 hi9 hz90 hz91 .i64 .i64 _ _ 0 (N + 1) rfl rfl rfl ?hC (by omega) ?b2 ?b3 ?_)
  case hC => omega
  case b2 => rw [hz92]; omega
  case b3 => omega
  intro cur hcur
  have o1 : Own (w.alloc (.cells cur 9)) 9 1 (.slice (some ⟨w.heap.size, 0, none⟩) 0 (N + 1)) 0 [] := ⟨by simp, .inr ⟨w.heap.size, N + 1, cur, rfl, Nat.zero_le _, heap_alloc_new _ _, by omega, by unfold maxLen; omega, by omega, by simp⟩⟩
  have O1 := Lib.hid (And.intro o1 ((Ch.refl (fun _ => False) w).alloc (.cells cur 9)))
  clear o1 hcur
  generalize hw1 : w.alloc (.cells cur 9) = w1 at O1
  go_wp2_with (at_builtin; refine wpList_append_Own _ rfl _ _ 22 rfl 9 i9 (.string ⟨#[]⟩) 1 16 Ybad.underlying22 hi9 hz90 hz91 hz92 rfl (by decide) _ 0 [] rfl (O1.out.1.alloc _) ⟨w1.heap.size, 0, none⟩ 1 1 [.string d0] rfl rfl ?c1 ?c2 ?c3 ?c4 ?_)
  case c1 => exact cell_one_new w1 _ _
  case c2 => intro x hx; simp at hx; subst hx; rfl
  case c3 => unfold maxLen; omega
  case c4 => omega
  intro ao2 cap2 w2 o2 k2 f2
  have O1S := Lib.hid O1.out.2.size
  have k2' : Ch (fun _ => False) w w2 := (O1.out.2.alloc (.cells #[.string d0] 9)).trans k2 (fun x hx h => by simp [Value.ownBlock] at h; omega)
  have o2' : Own w2 9 1 (.slice ao2 1 cap2) 1 [.string d0] := by simpa using o2
  have O2 := Lib.hid (And.intro o2' k2')
  clear o2 o2' k2 k2' O1
  go_wp2_with (at_builtin; refine wpList_append_any _ rfl _ _ 22 rfl 9 i9 (.string ⟨#[]⟩) 1 16 Ybad.underlying22 hi9 hz90 hz91 hz92 rfl (by decide) _ 1 [.string d0] rfl O2.out.1 (by omega) ao N cap (ds.map Value.string) rfl ?e0 ?e1 ?e2 ?e3 ?e4 ?e5 ?_)
  case e0 =>
    intro e
    by_cases hN0 : 0 < N
    · rw [HA.out.1 hN0] at e
      cases e
    · omega
  case e1 => simp [hN]
  case e2 =>
    intro a2 ha j u hj
    simp only [List.getElem?_map, Option.map_eq_some_iff] at hj
    obtain ⟨sx, hs, rfl⟩ := hj
    have hj2 := (List.getElem?_eq_some_iff.1 hs).1
    have e := HA.out.1 (by omega)
    rw [ha] at e
    cases e
    rw [Lib.add_plain]
    exact O2.out.2.cell (HA.out.2.1 j sx hs) (fun h => h)
  case e3 => intro u hu; simp at hu; obtain ⟨x, _, rfl⟩ := hu; rfl
  case e4 => unfold maxLen; omega
  case e5 => omega
  intro ao3 cap3 w3 o3 k3 f3
  have k3' : Ch (fun _ => False) w w3 := O2.out.2.trans k3 (fun x hx h => by
    rcases f2 x h with r | r
    · simp [Value.ownBlock] at r
      omega
    · have r' : w.heap.size ≤ x := by
        have := O1S.out
        simp at r
        omega
      omega)
  generalize hM : 1 + N = M at *
  have O3 := Lib.hid (And.intro o3 k3')
  clear o3 k3 k3' f3 O2
  obtain ⟨gi, capi, ei, _⟩ := O3.out.1.some_of (by omega)
  simp only [Value.slice.injEq, true_and] at ei
  obtain ⟨rfl, rfl⟩ := ei
  obtain ⟨ids, hids⟩ : ∃ ids, ids = d0 :: ds := ⟨_, rfl⟩
  have hil : ids.length = M := by rw [hids]; simp; omega
  have B0 : Hid (Bl w ((w3.alloc (.cells (mapCells (.slice (some ⟨w3.heap.size + 1, 0, none⟩) 1 1) (.slice none 0 0) (.pointer none) (.slice none 0 0) (.slice none 0 0)) 58)).alloc (.cells #[.int .i32 0] 21)) w3.heap.size (w3.heap.size + 1) ids 0 0 (.slice (some ⟨gi, 0, none⟩) M cap3) (.slice none 0 0) (.pointer none) (.slice none 0 0) (.slice none 0 0)) :=
    Bl.start (by rw [hil, hids]; exact O3.out.1) O3.out.2
  have HI : Hid (ids = d0 :: ds ∧ (∀ s ∈ ids, s.size ≤ 4096) ∧ (flat ids).length ≤ 1048578 ∧ ids.length = M) := by
    refine ⟨hids, ?_, ?_, hil⟩
    · intro s hs
      rw [hids] at hs
      rcases List.mem_cons.1 hs with rfl | hs
      · decide
      · exact HA.out.2.2.2.2.1 s hs
    · have := HA.out.2.2.2.2.2
      rw [hids]
      have e : flat (d0 :: ds) = [100, 48] ++ flat ds := by unfold flat; simp
      rw [e, List.length_append]
      simp
      omega
  clear hids hil O3
  go_wp2
  go_loopw [9, 34] (fun s9 s34 wr => ∃ (k : Nat) (en ad bu : Value), s34 = .int .i64 k ∧ k ≤ M ∧ Hid (Bl w wr w3.heap.size (w3.heap.size + 1) ids k k (.slice (some ⟨gi, 0, none⟩) M cap3) en ad bu (.slice none 0 0))) (fun _ s34 _ => (M - RowKit.intOf s34).toNat)
  case atStart => exact ⟨0, _, _, _, rfl, by omega, B0.out⟩
  case round =>
    obtain ⟨k, en, ad, bu, rfl, hk, HB⟩ := hrel
    obtain ⟨aoe, cape, rfl⟩ := HB.out.ends.slice_of
    by_cases hlt : k < M
    · obtain ⟨s, hs⟩ : ∃ s, ids[k]? = some s := ⟨_, List.getElem?_eq_getElem (by rw [HI.out.2.2.2]; exact hlt)⟩
      have cs : wr.cell? ⟨gi, k, none⟩ = some (.string s) := by
        have h1 := HB.out.row
        rw [HI.out.2.2.2] at h1
        rw [h1.cell k (by omega)]
        simp [hs]
      have hfl : (flat (ids.take (k + 1))).length ≤ 1048578 := by
        have e : flat ids = flat (ids.take (k + 1)) ++ flat (ids.drop (k + 1)) := by rw [← flat_append, List.take_append_drop]
        have := HI.out.2.2.1
        rw [e, List.length_append] at this
        omega
      have hfl2 : (flat (ids.take k)).length + s.size = (flat (ids.take (k + 1))).length := by rw [take_succ_of hs, flat_append, List.length_append, flat_one]
      have WS := Lib.hid (writeString_map HB.out.map HB.out.adr HB.out.bytes s (by omega))
      have HS := Lib.hid hs
      clear hs B0
      go_wp2_with fail
      refine WS.out.mono ?_
      rintro e w4 ⟨rfl, ao4, cap4, y1, y2, y3, y4⟩
      have b1 := HB.out.wrote HS.out y1 y2 y3 y4
      rw [hfl2] at b1
      obtain ⟨LL, hLL⟩ : ∃ LL, (flat (ids.take (k + 1))).length = LL := ⟨_, rfl⟩
      rw [hLL] at b1 hfl
      have B1 := Lib.hid b1
      have HLL := Lib.hid hLL
      clear y1 y2 y3 y4 WS cs b1 hLL hfl2
      have LEN : Hid (Calls Ybad.prog 10 #[.pointer (some ⟨w3.heap.size, 14, none⟩)] w4.drew fun e w' => e = .returned (.int .i64 LL) ∧ w' = w4.drew) := len_map (w := w4.drew) B1.out.map
      have l13 : w4.cell? ⟨w3.heap.size, 13, none⟩ = some (.slice aoe k cape) := B1.out.map.cell 13
      have l13a : ∀ o, (w4.alloc o).cell? ⟨w3.heap.size, 13, none⟩ = some (.slice aoe k cape) := fun o => (B1.out.map.alloc o).cell 13
      have OW : Hid (Own (w4.alloc (.cells #[.int .u32 LL] 62)).drew 62 1 (.slice aoe k cape) k (endCells ids k)) := (B1.out.ends.alloc _).drew
      have CN : Hid (∀ (j : Nat) (u : Value), [Value.int .u32 (LL : Int)][j]? = some u → (w4.alloc (.cells #[.int .u32 LL] 62)).drew.cell? ((⟨w4.heap.size, 0, none⟩ : Addr).add j) = some u) := cell_one_new w4 _ _
      have AFT : Hid (∀ v' w5, Own w5 62 1 v' (k + 1) (endCells ids k ++ [.int .u32 (LL : Int)]) → Ch (fun j => (Value.slice aoe k cape).ownBlock = some j) (w4.alloc (.cells #[.int .u32 LL] 62)).drew w5 → Fresh (w4.alloc (.cells #[.int .u32 LL] 62)).drew (.slice aoe k cape) v' →
          (w5.cell? ⟨w3.heap.size, 13, none⟩ = some (.slice aoe k cape) ∧ w5.frozen? ⟨w3.heap.size, 13, none⟩ = false) ∧ Bl w (w5.setCell ⟨w3.heap.size, 13, none⟩ v') w3.heap.size (w3.heap.size + 1) ids (k + 1) (k + 1) (.slice (some ⟨gi, 0, none⟩) M cap3) v' (.pointer (some ⟨w3.heap.size, 14, none⟩)) (.slice ao4 LL cap4) (.slice none 0 0)) := by
        intro v' w5 o5 k5 f5
        have k5' : Ch (fun j => (Value.slice aoe k cape).ownBlock = some j) w4 w5 := (((Ch.refl (fun j => (Value.slice aoe k cape).ownBlock = some j) w4).alloc _).drew).trans k5 (fun _ _ h => h)
        have f5' : Fresh w4 (.slice aoe k cape) v' := Fresh.low (show w4.heap.size ≤ (w4.alloc (.cells #[.int .u32 LL] 62)).drew.heap.size by simp) f5
        have m5 : MapAt w5 w3.heap.size _ _ _ _ _ := B1.out.map.ch k5' (B1.out.apart.2.2.2.1)
        refine ⟨⟨m5.cell 13, m5.free 13⟩, B1.out.ended ?_ k5' f5'⟩
        rw [HLL.out]
        exact o5
      have hwr : IntKind.u32.wrap ((LL : Nat) : Int) = (LL : Int) := by
        simp [IntKind.wrap, IntKind.signed, IntKind.bits]
        omega
      have b63 : k + 1 ≤ maxLen := by unfold maxLen; omega
      have bby : (k + 1) * 4 ≤ 140737488355328 := by omega
      go_wp2_with fail
      go_region_law (first
        | (go_simp; go_at_call 10; refine LEN.out.mono ?_; rintro e w9 ⟨rfl, rfl⟩; go_wp2)
        | (refine step_append_Own _ rfl (.tmp 51) (.tmp 59) 42 rfl 62 i62 (.int .u32 0) 1 4 Ybad.underlying42 hi62 hz620 hz621 hz622 rfl (by decide) (.slice aoe k cape) k (endCells ids k) (by simp [Act.eval]) OW.out ⟨w4.heap.size, 0, none⟩ 1 1 [.int .u32 (LL : Int)] (by simp [Act.eval]) rfl CN.out (by intro x hx; simp at hx; subst hx; rfl) b63 bby ?_; intro ao5 cap5 w5 o5 k5 f5; obtain ⟨⟨d13, e13⟩, FI⟩ := AFT.out _ w5 o5 k5 f5; clear o5 k5 f5))
      all_goals (go_wp2; exact ⟨⟨k + 1, _, _, _, by simp, by omega, FI⟩, by simp [RowKit.intOf]; omega⟩)
    · obtain rfl : k = M := by omega
      have B2 : Hid (Bl w wr w3.heap.size (w3.heap.size + 1) ids ids.length ids.length (.slice (some ⟨gi, 0, none⟩) k cap3) (.slice aoe k cape) ad bu (.slice none 0 0)) := by
        have := HB.out
        rw [HI.out.2.2.2]
        exact this
      clear HB B0
      go_wp2
      rename World => wL
      have D0 : Hid (Dp w wL w3.heap.size (w3.heap.size + 1) ids [] (.slice (some ⟨gi, 0, none⟩) k cap3) (.slice aoe k cape) ad bu (.slice none 0 0) (.slice none 0 0) []) := Dp.ch0 B2.out
      clear B2
      generalize w3.heap.size = bm at D0
      go_loopw [10, 12, 13, 68] (fun s10 s12 s13 s68 wr => ∃ (m : Nat) (dp : Value), s68 = .int .i64 m ∧ m ≤ nr ∧ Hid (Dp w wr bm (bm + 1) ids (rs.take m) (.slice (some ⟨gi, 0, none⟩) k cap3) (.slice aoe k cape) ad bu dp s10 (wantOf ids (rs.take m)))) (fun _ _ _ s68 _ => (nr - RowKit.intOf s68).toNat)
      case atStart => exact ⟨0, _, rfl, by omega, D0.out⟩
      case round =>
        obtain ⟨m, dp, rfl, hm, HD⟩ := hrel
        by_cases hlt2 : m < nr
        · obtain ⟨⟨D, P⟩, hr⟩ : ∃ r, rs[m]? = some r := ⟨_, List.getElem?_eq_getElem (by omega)⟩
          obtain ⟨c1, c2, hD, hP1, hP2⟩ := HRC.out.2 m (D, P) hr
          simp only at c1 c2 hD hP1 hP2
          obtain rfl := HRC.out.1 (by omega)
          have c1' : wr.cell? ⟨b2, off2 + m * 2, none⟩ = some (.int .u16 (D : Int)) := HD.out.bl.ch.cell c1 (fun h => h)
          have c2' : wr.cell? ⟨b2, off2 + m * 2 + 1, none⟩ = some (.int .i32 P) := HD.out.bl.ch.cell c2 (fun h => h)
          clear c1 c2
          obtain ⟨X, hX⟩ : ∃ X, D % k = X := ⟨_, rfl⟩
          have hXk : X < k := by rw [← hX]; exact Nat.mod_lt _ (by omega)
          have hmod : (D : Int) % (k : Int) = (X : Int) := by rw [← hX]; simp
          obtain ⟨sx, hsx⟩ : ∃ sx, ids[X]? = some sx := ⟨_, List.getElem?_eq_getElem (by rw [HI.out.2.2.2]; exact hXk)⟩
          have hsz : sx.size ≤ 4096 := HI.out.2.1 sx (List.mem_of_getElem? hsx)
          obtain ⟨aod, capd, rfl⟩ := HD.out.row.slice_of
          have hrl : (rs.take m).length = m := by rw [List.length_take]; omega
          rw [hrl] at HD
          have HX := Lib.hid (And.intro hr (And.intro hX (And.intro hsx (And.intro hrl HI.out.2.2.2))))
          have l25 : wr.cell? ⟨bm, 25, none⟩ = some (.slice aod m capd) := HD.out.bl.map.cell 25
          have lt25 : bm < wr.heap.size := HD.out.bl.map.lt
          clear hr hX hsx hrl
          go_upto_region 17 with fail
          rw [hmod]
          go_cut [] (fun wc => ∃ dp' : Value, Hid (Dp w wc bm (bm + 1) ids (rs.take (m + 1)) (.slice (some ⟨gi, 0, none⟩) k cap3) (.slice aoe k cape) ad bu dp' u10 (wantOf ids (rs.take m))) ∧ wc.cell? ⟨wr.heap.size, 1, none⟩ = some (.int .i32 P))
          case first =>
            obtain ⟨W1, hW1⟩ : ∃ W1, wr.alloc (.cells #[.int .u16 (D : Int), .int .i32 P] 66) = W1 := ⟨_, rfl⟩
            have hW1s : W1.heap.size = wr.heap.size + 1 := by rw [← hW1]; simp
            have D1 : Hid (Dp w W1 bm (bm + 1) ids (rs.take m) (.slice (some ⟨gi, 0, none⟩) k cap3) (.slice aoe k cape) ad bu (.slice aod m capd) u10 (wantOf ids (rs.take m))) := by rw [← hW1]; exact HD.out.alloc _
            have p0 : W1.cell? ⟨wr.heap.size, 1, none⟩ = some (.int .i32 P) := by
              rw [← hW1, cell_of_row _ _ _ _ _ _ (heap_alloc_new wr _)]
              rfl
            have l25a : ∀ o, (W1.alloc o).cell? ⟨bm, 25, none⟩ = some (.slice aod m capd) := fun o => (D1.out.bl.map.alloc o).cell 25
            have l25b : W1.cell? ⟨bm, 25, none⟩ = some (.slice aod m capd) := D1.out.bl.map.cell 25
            have p0a : ∀ o, (W1.alloc o).cell? ⟨wr.heap.size, 1, none⟩ = some (.int .i32 P) := fun o => (((Ch.refl (fun _ => False) W1).alloc o).cell p0 (fun h => h))
            have OW : Hid (Own (W1.alloc (.cells #[.int .i32 (X : Int), .int .i32 P] 67)).drew 67 2 (.slice aod m capd) m (dpCells ids (rs.take m))) := by
              have := (D1.out.row.alloc (.cells #[.int .i32 (X : Int), .int .i32 P] 67)).drew
              rwa [HX.out.2.2.2.1] at this
            have CN : Hid (∀ (j : Nat) (u : Value), [Value.int .i32 (X : Int), .int .i32 P][j]? = some u → (W1.alloc (.cells #[.int .i32 (X : Int), .int .i32 P] 67)).drew.cell? ((⟨W1.heap.size, 0, none⟩ : Addr).add j) = some u) := cell_two_new W1 _ _ _
            have AFT : Hid (∀ v' w5, Own w5 67 2 v' (m + 1) (dpCells ids (rs.take m) ++ [.int .i32 (X : Int), .int .i32 P]) → Ch (fun j => (Value.slice aod m capd).ownBlock = some j) (W1.alloc (.cells #[.int .i32 (X : Int), .int .i32 P] 67)).drew w5 → Fresh (W1.alloc (.cells #[.int .i32 (X : Int), .int .i32 P] 67)).drew (.slice aod m capd) v' →
                (w5.cell? ⟨bm, 25, none⟩ = some (.slice aod m capd) ∧ w5.frozen? ⟨bm, 25, none⟩ = false) ∧ Dp w (w5.setCell ⟨bm, 25, none⟩ v') bm (bm + 1) ids (rs.take (m + 1)) (.slice (some ⟨gi, 0, none⟩) k cap3) (.slice aoe k cape) ad bu v' u10 (wantOf ids (rs.take m)) ∧ (w5.setCell ⟨bm, 25, none⟩ v').cell? ⟨wr.heap.size, 1, none⟩ = some (.int .i32 P)) := by
              intro v' w5 o5 k5 f5
              have k5' : Ch (fun j => (Value.slice aod m capd).ownBlock = some j) W1 w5 := (((Ch.refl (fun j => (Value.slice aod m capd).ownBlock = some j) W1).alloc _).drew).trans k5 (fun _ _ h => h)
              have f5' : Fresh W1 (.slice aod m capd) v' := Fresh.low (show W1.heap.size ≤ (W1.alloc (.cells #[.int .i32 (X : Int), .int .i32 P] 67)).drew.heap.size by simp) f5
              have eX : D % ids.length = X := by rw [HX.out.2.2.2.2]; exact HX.out.2.1
              have hmore := D1.out.more (r := (D, P)) (v' := v') (w' := w5) (by rw [HX.out.2.2.2.1]; simp only [eX]; exact o5) k5' f5'
              rw [take_succ_of HX.out.1]
              refine ⟨hmore.1, hmore.2, ?_⟩
              rw [World.cell?_of_block (Below.heap_setCell _ _ _ _ (by simp; omega))]
              refine k5'.cell p0 (fun e => ?_)
              have := (HD.out.row.at _ e).1
              simp at this
            have b63 : m + 1 ≤ maxLen := by unfold maxLen; omega
            have bby : (m + 1) * 8 ≤ 140737488355328 := by omega
            have hwx : IntKind.i32.wrap ((X : Nat) : Int) = (X : Int) := by
              simp [IntKind.wrap, IntKind.signed, IntKind.bits]
              omega
            rw [hW1]
            clear hW1
            go_region_law (refine step_append_Own _ rfl (.tmp 82) (.tmp 88) 55 rfl 67 i67 (.agg #[.int .i32 0, .int .i32 0]) 2 8 Ybad.underlying55 hi67 hz670 hz671 hz672 rfl (by decide) (.slice aod m capd) m (dpCells ids (rs.take m)) (by simp [Act.eval]) OW.out ⟨W1.heap.size, 0, none⟩ 1 1 [.int .i32 (X : Int), .int .i32 P] (by simp [Act.eval]) rfl CN.out (by intro x hx; simp at hx; rcases hx with rfl | rfl <;> rfl) b63 bby ?_; intro ao5 cap5 w5 o5 k5 f5; obtain ⟨⟨d25, e25⟩, FI⟩ := AFT.out _ w5 o5 k5 f5; clear o5 k5 f5)
            all_goals (go_wp2_with fail; go_meet; case rel => exact ⟨_, FI.1, FI.2⟩)
          case rest =>
            obtain ⟨dp', HE, p1⟩ := hcut
            obtain ⟨W0, hW0⟩ : ∃ W0, wantOf ids (rs.take m) = W0 := ⟨_, rfl⟩
            have hW0l : W0.length ≤ 4300000 := by
              have h1 := want_len ids (rs.take m) HI.out.2.1 (fun r hr => by
                obtain ⟨j, hj⟩ := List.getElem?_of_mem (List.mem_of_mem_take hr)
                exact (HRC.out.2 j r hj).2.2.2)
              rw [hW0, HX.out.2.2.2.1] at h1
              omega
            rw [hW0] at HE
            have csx : wc.cell? ⟨gi, X, none⟩ = some (.string sx) := by
              have h1 := HE.out.bl.row
              rw [HX.out.2.2.2.2] at h1
              rw [h1.cell X (by omega)]
              simp [HX.out.2.2.1]
            have hq0 : u10.ownBlock ≠ some wr.heap.size := fun e => by
              have := (HD.out.want.at _ e).1
              omega
            have HW0 := Lib.hid hW0
            clear hW0
            go_wp2_with (at_builtin; refine wpList_append_Own_string _ rfl _ _ 26 9 rfl 5 i5 Ybad.underlying26 Ybad.underlying9 hi5 hz50 hz51 hz52 u10 W0.length (Lib.byteCells W0) rfl HE.out.want sx rfl ?d1 ?d2 ?_)
            case d1 => unfold maxLen; omega
            case d2 => omega
            intro ao6 cap6 w6 o6 k6 f6
            have D6 := Lib.hid (HE.out.putS o6 k6 f6)
            have p6 := k6.cell p1 hq0
            have q6 : (Value.slice ao6 (W0.length + sx.size) cap6).ownBlock ≠ some wr.heap.size := fun e => by
              rcases f6 _ e with r | r
              · exact hq0 r
              · have := cell_lt p1
                simp at this
                omega
            have hl6 : (W0 ++ sx.data.toList).length = W0.length + sx.size := by rw [List.length_append]; rfl
            clear o6 k6 f6 p1 hq0 csx HE
            obtain ⟨W6, hW6⟩ : ∃ W6, W0 ++ sx.data.toList = W6 := ⟨_, rfl⟩
            have l6 : W6.length ≤ 4310000 := by rw [← hW6, hl6]; omega
            rw [hW6] at D6 hl6
            rw [← hl6] at D6 q6 ⊢
            clear hl6
            go_wp2_with (at_builtin; refine wpList_append_Own _ rfl _ _ 26 rfl 5 i5 (.int .u8 0) 1 1 Ybad.underlying26 hi5 hz50 hz51 hz52 rfl (by decide) _ W6.length (Lib.byteCells W6) rfl (D6.out.want.alloc _) ⟨w6.heap.size, 0, none⟩ 1 1 [.int .u8 9] rfl rfl ?f1 ?f2 ?f3 ?f4 ?_)
            case f1 => exact cell_one_new w6 _ _
            case f2 => intro x hx; simp at hx; subst hx; rfl
            case f3 => unfold maxLen; omega
            case f4 => omega
            intro ao7 cap7 w7 o7 k7 f7
            have D7 := Lib.hid (D6.out.putB (x := 9) o7 k7 f7)
            have p7 : w7.cell? ⟨wr.heap.size, 1, none⟩ = some (.int .i32 P) := k7.cell ((((Ch.refl (fun _ => False) w6).alloc _).cell p6 (fun h => h))) q6
            have hl7 : (W6 ++ [9]).length = W6.length + 1 := by simp
            obtain ⟨W7, hW7⟩ : ∃ W7, W6 ++ [9] = W7 := ⟨_, rfl⟩
            have l7 : W7.length ≤ 4310001 := by rw [← hW7, hl7]; omega
            rw [hW7] at D7 hl7
            rw [← hl7] at D7 ⊢
            clear hl7 o7 k7 f7 p6 q6 D6
            go_wp2_with fail
            refine (zitoa W7.length P hP1 hP2 _ _ _ D7.out.want (by omega)).mono ?_
            rintro e w8 ⟨r8, rfl, ao8, cap8, rfl, o8, k8, f8⟩
            have d8 : Dp w w8 bm (bm + 1) ids (rs.take (m + 1)) (.slice (some ⟨gi, 0, none⟩) k cap3) (.slice aoe k cape) ad bu dp' (.slice ao8 (W7.length + (Lib.itoa P).length) cap8) (W7 ++ Lib.itoa P) := D7.out.put (by rw [Lib.byteCells_append, List.length_append]; exact o8) k8 f8
            have D8 := Lib.hid d8
            have l8i := Lib.itoa_length_le P (by omega) (by omega)
            have hl8 : (W7 ++ Lib.itoa P).length = W7.length + (Lib.itoa P).length := List.length_append
            obtain ⟨W8, hW8⟩ : ∃ W8, W7 ++ Lib.itoa P = W8 := ⟨_, rfl⟩
            have l8 : W8.length ≤ 4310022 := by rw [← hW8, hl8]; omega
            rw [hW8] at D8 hl8
            rw [← hl8] at D8 ⊢
            clear hl8 o8 k8 f8 p7 d8 l8i D7
            go_wp2_with (at_builtin; refine wpList_append_Own _ rfl _ _ 26 rfl 5 i5 (.int .u8 0) 1 1 Ybad.underlying26 hi5 hz50 hz51 hz52 rfl (by decide) _ W8.length (Lib.byteCells W8) rfl (D8.out.want.alloc _) ⟨w8.heap.size, 0, none⟩ 1 1 [.int .u8 10] rfl rfl ?j1 ?j2 ?j3 ?j4 ?_)
            case j1 => exact cell_one_new w8 _ _
            case j2 => intro x hx; simp at hx; subst hx; rfl
            case j3 => unfold maxLen; omega
            case j4 => omega
            intro ao9 cap9 w9 o9 k9 f9
            have D9 := Lib.hid (D8.out.putB (x := 10) o9 k9 f9)
            clear o9 k9 f9 D8
            have fw : wantOf ids (rs.take (m + 1)) = W8 ++ [10] := by
              have eX : D % ids.length = X := by rw [HX.out.2.2.2.2]; exact HX.out.2.1
              have e0 : ids.getD X d0 = sx := by simp [List.getD_eq_getElem?_getD, HX.out.2.2.1]
              have e1 : wantOf ids (rs.take (m + 1)) = wantOf ids (rs.take m) ++ lineOf ids (D, P) := by
                rw [take_succ_of HX.out.1]
                unfold wantOf
                simp
              rw [e1, HW0.out, ← hW8, ← hW7, ← hW6]
              unfold lineOf
              simp only [eX, e0, List.append_assoc]
            have FW := Lib.hid fw
            clear hW6 hW7 hW8 fw
            go_wp2
            go_roundw
            case rel =>
              refine ⟨m + 1, dp', by simp, by omega, ?_⟩
              rw [FW.out]
              exact D9.out
            case measure => simp [RowKit.intOf]; omega
        · obtain rfl : m = nr := by omega
          have hall : rs.take m = rs := List.take_of_length_le (by omega)
          have FIN : Hid (Dp w wr bm (bm + 1) (d0 :: ds) rs (.slice (some ⟨gi, 0, none⟩) k cap3) (.slice aoe k cape) ad bu dp u10 (wantOf (d0 :: ds) rs)) := by
            have := HD.out
            rw [hall, HI.out.1] at this
            exact this
          clear hall
          go_wp2
          go_ret2
          exact ⟨_, _, _, _, _, _, _, _, rfl, FIN.out⟩
end Go.Proofs.YbulkdeicDoor
