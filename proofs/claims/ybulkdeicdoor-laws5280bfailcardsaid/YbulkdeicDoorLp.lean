/-
  OWN WORK. What stands in WriteDP's loop; the texts by their ends; the records' cells.
-/
import Derived.Test.YbulkdeicDoorBld
namespace Go.Proofs.YbulkdeicDoor
open Go.RowKit

theorem Wr.ch {S : Nat → Prop} {w w' : World} {bw gb bz be : Nat} {f er : Bool} {u z : List UInt8} {c : Nat} {zv : Value} (h : Wr w bw gb bz be f er u z c zv) (hc : Ch S w w') (s1 : ¬ S bw) (s2 : ¬ S gb) (s3 : ¬ S bz) (s4 : ∀ j, zv.ownBlock = some j → ¬ S j) : Wr w' bw gb bz be f er u z c zv := by
  obtain ⟨cur, hg, hs, ht⟩ := h.buf
  exact ⟨(hc.block bw (Array.getElem?_eq_some_iff.1 h.wr).1 s1).trans h.wr, ⟨cur, (hc.block gb (Array.getElem?_eq_some_iff.1 hg).1 s2).trans hg, hs, ht⟩, h.ulen, (hc.block bz (Array.getElem?_eq_some_iff.1 h.zz).1 s3).trans h.zz, h.own.ch hc s4, h.ne⟩

structure Lp (w wr : World) (bw gb bz be : Nat) (f er : Bool) (D u z : List UInt8) (c : Nat) (zv lv bu : Value) (l T : List UInt8) : Prop where
  wrt : Wr wr bw gb bz be f er u z c zv
  inv : Inv f D er u z c
  zvN : ∀ j, zv.ownBlock = some j → w.heap.size ≤ j
  line : Own wr 5 1 lv T.length (Lib.byteCells T)
  lvN : ∀ j, lv.ownBlock = some j → w.heap.size ≤ j
  lgb : lv.ownBlock ≠ some gb
  lzv : ∀ j, lv.ownBlock = some j → zv.ownBlock ≠ some j
  bytes : Bytes wr bu l
  ch : Ch (fun k => k = bz ∨ bu.ownBlock = some k) w wr
  bwN : w.heap.size ≤ bw
  gbN : w.heap.size ≤ gb
  buL : ∀ j, bu.ownBlock = some j → j < w.heap.size

section
variable {w wr : World} {bw gb bz be : Nat} {f er : Bool} {D u z : List UInt8} {c : Nat} {zv lv bu : Value} {l T : List UInt8}

theorem Lp.bu_bz (h : Lp w wr bw gb bz be f er D u z c zv lv bu l T) : bu.ownBlock ≠ some bz := fun e => by
  obtain ⟨cur, fz, hx⟩ := h.bytes.at bz e
  have := h.wrt.zz
  rw [hx] at this
  cases this

/-- Whatever turns apart from all of it. -/
theorem Lp.keep (h : Lp w wr bw gb bz be f er D u z c zv lv bu l T) {S : Nat → Prop} {w' : World} (hc : Ch S wr w') (s1 : ¬ S bw) (s2 : ¬ S gb) (s3 : ¬ S bz) (s4 : ∀ j, zv.ownBlock = some j → ¬ S j) (s5 : ∀ j, lv.ownBlock = some j → ¬ S j) (s6 : ∀ j, bu.ownBlock = some j → ¬ S j) (s7 : ∀ j, j < w.heap.size → ¬ S j) :
    Lp w w' bw gb bz be f er D u z c zv lv bu l T :=
  ⟨h.wrt.ch hc s1 s2 s3 s4, h.inv, h.zvN, h.line.ch hc s5, h.lvN, h.lgb, h.lzv, h.bytes.ch hc s6, h.ch.trans hc (fun x hx e => absurd e (s7 x hx)), h.bwN, h.gbN, h.buL⟩

theorem Lp.alloc (h : Lp w wr bw gb bz be f er D u z c zv lv bu l T) (o : Obj) : Lp w (wr.alloc o) bw gb bz be f er D u z c zv lv bu l T :=
  h.keep ((Ch.refl (fun _ => False) wr).alloc o) (fun h => h) (fun h => h) (fun h => h) (fun _ _ h => h) (fun _ _ h => h) (fun _ _ h => h) (fun _ _ h => h)

theorem Lp.drew (h : Lp w wr bw gb bz be f er D u z c zv lv bu l T) : Lp w wr.drew bw gb bz be f er D u z c zv lv bu l T :=
  h.keep ((Ch.refl (fun _ => False) wr).drew) (fun h => h) (fun h => h) (fun h => h) (fun _ _ h => h) (fun _ _ h => h) (fun _ _ h => h) (fun _ _ h => h)

theorem Lp.froze (h : Lp w wr bw gb bz be f er D u z c zv lv bu l T) {w' : World} (hc : Ch (fun k => bu.ownBlock = some k) wr w') (hb : Bytes w' bu l) : Lp w w' bw gb bz be f er D u z c zv lv bu l T := by
  refine ⟨h.wrt.ch hc ?_ ?_ h.bu_bz ?_, h.inv, h.zvN, h.line.ch hc ?_, h.lvN, h.lgb, h.lzv, hb, h.ch.trans hc (fun x hx e => .inr e), h.bwN, h.gbN, h.buL⟩
  · intro e; have := h.buL _ e; have := h.bwN; omega
  · intro e; have := h.buL _ e; have := h.gbN; omega
  · intro j hj e; have := h.buL _ e; have := h.zvN j hj; omega
  · intro j hj e; have := h.buL _ e; have := h.lvN j hj; omega

theorem Lp.head (h : Lp w wr bw gb bz be f er D u z c zv lv bu l T) {v' : Value} (ho : Own wr 5 1 v' 0 []) (hb : v'.ownBlock = lv.ownBlock) : Lp w wr bw gb bz be f er D u z c zv v' bu l [] :=
  ⟨h.wrt, h.inv, h.zvN, ho, by rw [hb]; exact h.lvN, by rw [hb]; exact h.lgb, by rw [hb]; exact h.lzv, h.bytes, h.ch, h.bwN, h.gbN, h.buL⟩

theorem Lp.put (h : Lp w wr bw gb bz be f er D u z c zv lv bu l T) {w' : World} {v' : Value} {t : List UInt8} (ho : Own w' 5 1 v' (T ++ t).length (Lib.byteCells (T ++ t))) (hc : Ch (fun k => lv.ownBlock = some k) wr w') (hf : Fresh wr lv v') :
    Lp w w' bw gb bz be f er D u z c zv v' bu l (T ++ t) := by
  have a := h.wrt.apart
  obtain ⟨cur, hg, _, _⟩ := h.wrt.buf
  refine ⟨h.wrt.ch hc (h.line.ne h.wrt.wr (by decide)) h.lgb (h.line.ne h.wrt.zz (by decide)) (fun j hj e => h.lzv j e hj), h.inv, h.zvN, ho, ?_, ?_, ?_, h.bytes.ch hc ?_, h.ch.trans hc ?_, h.bwN, h.gbN, h.buL⟩
  · intro j hj
    rcases hf j hj with r | r
    · exact h.lvN j r
    · have := h.ch.size; omega
  · intro e
    rcases hf gb e with r | r
    · exact h.lgb r
    · have := (Array.getElem?_eq_some_iff.1 hg).1; omega
  · intro j hj e
    rcases hf j hj with r | r
    · exact h.lzv j r e
    · have := (h.wrt.own.at j e).1; omega
  · intro j hj e; have := h.buL j hj; have := h.lvN j e; omega
  · intro x hx e; have := h.lvN x e; omega

theorem Lp.putB (h : Lp w wr bw gb bz be f er D u z c zv lv bu l T) {w' : World} {v' : Value} {x : UInt8} {o : Obj} (ho : Own w' 5 1 v' (T.length + 1) (Lib.byteCells T ++ [.int .u8 x.toNat])) (hc : Ch (fun k => lv.ownBlock = some k) (wr.alloc o) w') (hf : Fresh (wr.alloc o) lv v') :
    Lp w w' bw gb bz be f er D u z c zv v' bu l (T ++ [x]) := by
  refine (h.alloc o).put ?_ hc hf
  rw [Lib.byteCells_append, List.length_append]
  exact ho

theorem Lp.wrote (h : Lp w wr bw gb bz be f er D u z c zv lv bu l T) {w' : World} {er' : Bool} {D' u' z' : List UInt8} {c' : Nat} {zv' : Value} (hw : Wr w' bw gb bz be f er' u' z' c' zv') (hi : Inv f D' er' u' z' c') (hc : Ch (fun k => k = bw ∨ k = gb ∨ k = bz ∨ zv.ownBlock = some k) wr w') (hf : Fresh wr zv zv') :
    Lp w w' bw gb bz be f er' D' u' z' c' zv' lv bu l T := by
  refine ⟨hw, hi, ?_, h.line.ch hc ?_, h.lvN, h.lgb, ?_, h.bytes.ch hc ?_, h.ch.trans hc ?_, h.bwN, h.gbN, h.buL⟩
  · intro j hj
    rcases hf j hj with r | r
    · exact h.zvN j r
    · have := h.ch.size; omega
  · rintro j hj (e | e | e | e)
    · exact h.line.ne h.wrt.wr (by decide) (by rw [← e]; exact hj)
    · exact h.lgb (by rw [← e]; exact hj)
    · exact h.line.ne h.wrt.zz (by decide) (by rw [← e]; exact hj)
    · exact h.lzv j hj e
  · intro j hj e
    rcases hf j e with r | r
    · exact h.lzv j hj r
    · have := (h.line.at j hj).1; omega
  · rintro j hj (e | e | e | e)
    · have := h.buL j hj; have := h.bwN; omega
    · have := h.buL j hj; have := h.gbN; omega
    · exact h.bu_bz (by rw [← e]; exact hj)
    · have := h.buL j hj; have := h.zvN j e; omega
  · rintro x hx (e | e | e | e)
    · have := h.bwN; omega
    · have := h.gbN; omega
    · exact .inl e
    · have := h.zvN x e; omega
end

/-- A text by its ends. -/
theorem extract_id {ids : List ByteArray} {X : Nat} {s : ByteArray} (h : ids[X]? = some s) : (⟨(flat ids).toArray⟩ : ByteArray).extract (flat (ids.take X)).length (flat (ids.take (X + 1))).length = s := by
  have e1 : flat ids = flat (ids.take X) ++ (s.data.toList ++ flat (ids.drop (X + 1))) := by
    have hx : ids = ids.take X ++ ([s] ++ ids.drop (X + 1)) := by
      rw [← List.append_assoc, ← take_succ_of h, List.take_append_drop]
    have h2 := congrArg flat hx
    rw [flat_append, flat_append] at h2
    rw [h2]
    congr 2
    unfold flat
    simp only [List.flatMap_cons, List.flatMap_nil, List.append_nil]
  have e2 : (flat (ids.take (X + 1))).length = (flat (ids.take X)).length + s.data.toList.length := by
    rw [take_succ_of h, flat_append, List.length_append, flat_one]
    rfl
  apply ByteArray.ext
  apply Array.toList_inj.1
  rw [e2]
  simp only [ByteArray.data_extract, Array.toList_extract, e1]
  simp [List.extract]

theorem dpCells_get {ids : List ByteArray} : ∀ (rs : List (Nat × Int)) (m : Nat) (r : Nat × Int), rs[m]? = some r → (dpCells ids rs)[m * 2]? = some (.int .i32 (((r.1 % ids.length : Nat)) : Int)) ∧ (dpCells ids rs)[m * 2 + 1]? = some (.int .i32 r.2)
  | [], m, r, h => by simp at h
  | x :: rs, 0, r, h => by
    simp at h
    subst h
    simp [dpCells]
  | x :: rs, m + 1, r, h => by
    have := dpCells_get (ids := ids) rs m r (by simpa using h)
    have e : dpCells ids (x :: rs) = .int .i32 (((x.1 % ids.length : Nat)) : Int) :: .int .i32 x.2 :: dpCells ids rs := rfl
    rw [e, show (m + 1) * 2 = m * 2 + 1 + 1 by omega]
    exact this
end Go.Proofs.YbulkdeicDoor
