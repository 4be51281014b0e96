/-
  OWN WORK. What holds at the head of each round of LawS5274BMin's first loop, and that a round keeps it.
-/
import Derived.Test.YbulkdeewPushAny
namespace Go.Proofs.Ybulkdeew
open Go.RowKit
attribute [local simp] icells_length swapL_length

def ptrV (hb : Nat) : Value := .pointer (some ⟨hb, 0, none⟩)
def heldCells (j : Int) : Array Value := #[.int .i64 0, .int .u64 0, .int .u64 0, .int .u64 0, .string ⟨#[]⟩, .slice none 0 0, .bool false, .slice none 0 0, .int .u64 j, .int .i64 0]

theorem QSt.notin {w : World} {qb : Nat} {rv hv : Value} {run hp : Its} (h : QSt w qb rv hv run hp) {x : Nat} {c : Array Value} {t : TypeId} (hx : w.heap[x]? = some (.cells c t (0, 0))) (ht : t ≠ 39) (hne : x ≠ qb) :
    ¬ (x = qb ∨ rv.ownBlock = some x ∨ hv.ownBlock = some x) := by
  rintro (e | e | e)
  · exact hne e
  · obtain ⟨_, cur, hc⟩ := h.run.ownBlock_lt x e
    rw [hx] at hc; simp at hc; exact ht hc.2
  · obtain ⟨_, cur, hc⟩ := h.hp.ownBlock_lt x e
    rw [hx] at hc; simp at hc; exact ht hc.2

theorem QSt.kept {w w' : World} {qb : Nat} {rv hv : Value} {run hp : Its} (h : QSt w qb rv hv run hp) (hk : ∀ x, x = qb ∨ rv.ownBlock = some x ∨ hv.ownBlock = some x → w'.heap[x]? = w.heap[x]?) : QSt w' qb rv hv run hp :=
  ⟨(hk qb (.inl rfl)).trans h.q, OwnsR.kept h.run fun k e => hk k (.inr (.inl e)), OwnsR.kept h.hp fun k e => hk k (.inr (.inr e)), h.apart, h.base⟩

theorem QSt.alloc {w : World} {qb : Nat} {rv hv : Value} {run hp : Its} (h : QSt w qb rv hv run hp) (o : Obj) : QSt (w.alloc o) qb rv hv run hp :=
  h.kept fun x hx => Below.heap_alloc _ _ _ (by
    rcases hx with rfl | e | e
    · exact h.lt
    · exact (h.run.ownBlock_lt x e).1
    · exact (h.hp.ownBlock_lt x e).1)

/-- A store into a block of another kind. -/
theorem QSt.stored {w : World} {qb : Nat} {rv hv : Value} {run hp : Its} (h : QSt w qb rv hv run hp) (a : Addr) (u : Value) {c : Array Value} {t : TypeId} (hx : w.heap[a.block]? = some (.cells c t (0, 0))) (ht : t ≠ 39) (hne : a.block ≠ qb) : QSt (w.setCell a u) qb rv hv run hp :=
  h.kept fun x hxx => Below.heap_setCell _ _ _ _ (fun e => by subst e; exact h.notin hx ht hne hxx)

structure MinInv (w : World) (B len : Nat) (zs : List Int) (i : Nat) (rv hv : Value) (run hp : Its) (hbs : List Nat) (wr : World) : Prop where
  hl : hbs.length = i
  q : QSt wr B rv hv run hp
  asc : Asc run
  heap : IsHeap hp
  perm : (run ++ hp).Perm ((zs.take i).zip hbs)
  hs : OwnsR wr 28 1 (.slice (some ⟨B + 1, 0, none⟩) len len) len (hbs.map ptrV ++ List.replicate (len - i) (Value.pointer none))
  held : ∀ j hb : Nat, hbs[j]? = some hb → wr.heap[hb]? = some (.cells (heldCells j) 36 (0, 0))
  bel : Below B w wr

section
variable {w : World} {B len : Nat} {zs : List Int} {i : Nat} {rv hv : Value} {run hp : Its} {hbs : List Nat} {wr : World}

theorem MinInv.hsBlock (h : MinInv w B len zs i rv hv run hp hbs wr) : ∃ cur, wr.heap[B + 1]? = some (.cells cur 28 (0, 0)) := by
  obtain ⟨cur, hc, _⟩ := h.hs.block; exact ⟨cur, hc⟩

/-- The world in which 'push' is called. -/
theorem MinInv.before (h : MinInv w B len zs i rv hv run hp hbs wr) :
    QSt ((wr.alloc (.cells (heldCells i) 36)).setCell ⟨B + 1, i, none⟩ (ptrV wr.heap.size)) B rv hv run hp := by
  obtain ⟨cur, hc⟩ := h.hsBlock
  have hc' : (wr.alloc (.cells (heldCells i) 36)).heap[B + 1]? = some (.cells cur 28 (0, 0)) := by
    rw [Below.heap_alloc _ _ _ (Array.getElem?_eq_some_iff.1 hc).1]; exact hc
  exact (h.q.alloc _).stored _ _ hc' (by decide) (by show B + 1 ≠ B; omega)

theorem MinInv.after (h : MinInv w B len zs i rv hv run hp hbs wr) (hi : i < len) (hz : len ≤ zs.length) {w' : World} {rv' hv' : Value} {run' hp' : Its}
    (q' : QSt w' B rv' hv' run' hp') (a' : Asc run') (h' : IsHeap hp') (p' : (run' ++ hp').Perm (run ++ hp ++ [(zs.getD i 0, wr.heap.size)]))
    (ch : Ch (fun x => x = B ∨ rv.ownBlock = some x ∨ hv.ownBlock = some x) ((wr.alloc (.cells (heldCells i) 36)).setCell ⟨B + 1, i, none⟩ (ptrV wr.heap.size)) w') :
    MinInv w B len zs (i + 1) rv' hv' run' hp' (hbs ++ [wr.heap.size]) w' := by
  obtain ⟨cur, hc⟩ := h.hsBlock
  have hB : B < wr.heap.size := h.q.lt
  have hhl := h.hl
  have hB1 : B + 1 < wr.heap.size := (Array.getElem?_eq_some_iff.1 hc).1
  have hq2 := h.before
  have hs2 : OwnsR ((wr.alloc (.cells (heldCells i) 36)).setCell ⟨B + 1, i, none⟩ (ptrV wr.heap.size)) 28 1 (.slice (some ⟨B + 1, 0, none⟩) len len) len ((hbs.map ptrV ++ List.replicate (len - i) (Value.pointer none)).set i (ptrV wr.heap.size)) := by
    have := (h.hs.alloc (.cells (heldCells i) 36)).stored i (ptrV wr.heap.size) (by omega)
    rw [Nat.zero_add] at this
    exact this
  have eset : (hbs.map ptrV ++ List.replicate (len - i) (Value.pointer none)).set i (ptrV wr.heap.size) = (hbs ++ [wr.heap.size]).map ptrV ++ List.replicate (len - (i + 1)) (Value.pointer none) := by
    rw [show len - i = (len - (i + 1)) + 1 by omega, List.replicate_succ, List.set_append_right _ _ (by simp [h.hl]), List.length_map, h.hl, Nat.sub_self]
    simp
  rw [eset] at hs2
  have hsz : ((wr.alloc (.cells (heldCells i) 36)).setCell ⟨B + 1, i, none⟩ (ptrV wr.heap.size)).heap.size = wr.heap.size + 1 := by simp [World.setCell]
  refine ⟨by simp [h.hl], q', a', h', ?_, ?_, ?_, ?_⟩
  · refine p'.trans ?_
    have e1 : zs.take (i + 1) = zs.take i ++ [zs.getD i 0] := by
      rw [List.take_succ_eq_append_getElem (by omega)]
      simp [List.getD_eq_getElem?_getD, List.getElem?_eq_getElem (show i < zs.length by omega)]
    rw [e1, List.zip_append (by simp [h.hl]; omega)]
    exact List.Perm.append_right _ h.perm
  · refine hs2.ch ch ?_
    intro k hk
    simp [Value.ownBlock] at hk
    subst hk
    obtain ⟨cur2, hc2, _⟩ := hs2.block
    exact hq2.notin hc2 (by decide) (by omega)
  · intro j hb hj
    have key : ∀ (x : Nat) (c : Array Value), ((wr.alloc (.cells (heldCells i) 36)).setCell ⟨B + 1, i, none⟩ (ptrV wr.heap.size)).heap[x]? = some (.cells c 36 (0, 0)) → w'.heap[x]? = some (.cells c 36 (0, 0)) := by
      intro x c hx
      have hxB : x ≠ B := by rintro rfl; have := hq2.q; rw [this] at hx; simp at hx
      rw [ch.block x (Array.getElem?_eq_some_iff.1 hx).1 (hq2.notin hx (by decide) hxB)]; exact hx
    by_cases hji : j < i
    · rw [List.getElem?_append_left (by omega)] at hj
      have h0 := h.held j hb hj
      refine key hb _ ?_
      have hlt := (Array.getElem?_eq_some_iff.1 h0).1
      rw [Below.heap_setCell _ _ _ _ (by rintro rfl; rw [hc] at h0; simp at h0), Below.heap_alloc _ _ _ hlt]
      exact h0
    · have : j = i := by
        have := (List.getElem?_eq_some_iff.1 hj).1
        simp [h.hl] at this; omega
      subst this
      rw [List.getElem?_append_right (by omega), h.hl, Nat.sub_self] at hj
      simp at hj
      subst hj
      refine key _ _ ?_
      rw [Below.heap_setCell _ _ _ _ (by show wr.heap.size ≠ B + 1; omega)]
      exact heap_alloc_new wr _
  · have b2 : Below B w ((wr.alloc (.cells (heldCells i) 36)).setCell ⟨B + 1, i, none⟩ (ptrV wr.heap.size)) := (h.bel.alloc (by omega) _).setCell (by show B ≤ B + 1; omega) _
    refine b2.trans (ch.toBelow (by omega) ?_)
    intro x hx hS
    rcases hS with rfl | e | e
    · exact Nat.le_refl _
    · exact Nat.le_of_lt (h.q.base x (.inl e))
    · exact Nat.le_of_lt (h.q.base x (.inr e))

end
end Go.Proofs.Ybulkdeew
