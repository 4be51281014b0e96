/-
  OWN WORK. What holds of the queue and of the model's three rows at every step of LawS5274BScript.
-/
import Derived.Test.YbulkdeewPopAny
import Derived.Test.YbulkdeewLive
namespace Go.Proofs.Ybulkdeew
open Go.RowKit

def keyV (k : Int) : Value := .int .u64 k

structure SInv (wr : World) (qb : Nat) (kv lv sv rv hv : Value) (run hp : Its) (n : Nat) (ks : List Int) (ls : List Bool) (hbs : List Nat) : Prop where
  q : QSt wr qb rv hv run hp
  asc : Asc run
  heapy : IsHeap hp
  kl : ks.length = n
  ll : ls.length = n
  hl : hbs.length = n
  perm : (run ++ hp).Perm (liveI ks ls hbs)
  keys : OwnsR wr 27 1 kv n (ks.map keyV)
  live : OwnsR wr 4 1 lv n (ls.map Value.bool)
  hs : OwnsR wr 28 1 sv n (hbs.map ptrV)
  held : ∀ j hb : Nat, hbs[j]? = some hb → wr.heap[hb]? = some (.cells (heldCells j) 36 (0, 0))
  kb : ∀ x, kv.ownBlock = some x → qb < x
  lb : ∀ x, lv.ownBlock = some x → qb < x
  sb : ∀ x, sv.ownBlock = some x → qb < x

section
variable {wr : World} {qb : Nat} {kv lv sv rv hv : Value} {run hp : Its} {n : Nat} {ks : List Int} {ls : List Bool} {hbs : List Nat}

/-- Only rows of items and the queue's own block have turned. -/
theorem SInv.ch (h : SInv wr qb kv lv sv rv hv run hp n ks ls hbs) {w' : World}
    (ch : Ch (fun x => x = qb ∨ rv.ownBlock = some x ∨ hv.ownBlock = some x) wr w') :
    OwnsR w' 27 1 kv n (ks.map keyV) ∧ OwnsR w' 4 1 lv n (ls.map Value.bool) ∧ OwnsR w' 28 1 sv n (hbs.map ptrV) ∧ ∀ j hb : Nat, hbs[j]? = some hb → w'.heap[hb]? = some (.cells (heldCells j) 36 (0, 0)) := by
  have key : ∀ (x : Nat) (c : Array Value) (t : TypeId), t ≠ 39 → t ≠ 25 → wr.heap[x]? = some (.cells c t (0, 0)) → ¬ (x = qb ∨ rv.ownBlock = some x ∨ hv.ownBlock = some x) := by
    intro x c t h1 h2 hx
    refine h.q.notin hx h1 ?_
    rintro rfl
    rw [h.q.q] at hx
    simp at hx
    exact h2 hx.2.symm
  refine ⟨h.keys.ch ch ?_, h.live.ch ch ?_, h.hs.ch ch ?_, ?_⟩
  · intro k hk
    obtain ⟨_, c, hc⟩ := h.keys.ownBlock_lt k hk
    exact key k c 27 (by decide) (by decide) hc
  · intro k hk
    obtain ⟨_, c, hc⟩ := h.live.ownBlock_lt k hk
    exact key k c 4 (by decide) (by decide) hc
  · intro k hk
    obtain ⟨_, c, hc⟩ := h.hs.ownBlock_lt k hk
    exact key k c 28 (by decide) (by decide) hc
  · intro j hb hj
    have h0 := h.held j hb hj
    rw [ch.block hb (Array.getElem?_eq_some_iff.1 h0).1 (key hb _ 36 (by decide) (by decide) h0)]
    exact h0

theorem SInv.below (h : SInv wr qb kv lv sv rv hv run hp n ks ls hbs) {w' : World} (hb : Below wr.heap.size wr w') : SInv w' qb kv lv sv rv hv run hp n ks ls hbs :=
  { h with
    q := h.q.kept fun x hx => hb.block x (by
      rcases hx with rfl | e | e
      · exact h.q.lt
      · exact (h.q.run.ownBlock_lt x e).1
      · exact (h.q.hp.ownBlock_lt x e).1)
    keys := h.keys.below hb
    live := h.live.below hb
    hs := h.hs.below hb
    held := fun j x hj => (hb.block x (Array.getElem?_eq_some_iff.1 (h.held j x hj)).1).trans (h.held j x hj) }

/-- The lowest, as the model sees it. -/
theorem SInv.lowest (h : SInv wr qb kv lv sv rv hv run hp n ks ls hbs) (hne : 0 < run.length + hp.length) :
    ∃ a xk xh, low run hp = (xk, xh) ∧ a < n ∧ ls[a]? = some true ∧ ks[a]? = some xk ∧ hbs[a]? = some xh ∧ (scanTo ks ls n) = (true, xk) := by
  have hm := (h.perm.mem_iff).1 (low_mem run hp hne)
  obtain ⟨a, h1, h2, h3⟩ := (liveI_mem _ _ _ _).1 hm
  have ha : a < n := by rw [← h.ll]; exact (List.getElem?_eq_some_iff.1 h1).1
  refine ⟨a, _, _, rfl, ha, h1, h2, h3, ?_⟩
  have g1 : ls.getD a false = true := by simp [List.getD_eq_getElem?_getD, h1]
  have g2 : ks.getD a 0 = (low run hp).1 := by simp [List.getD_eq_getElem?_getD, h2]
  have hsl := scan_least ks ls n a ha g1
  obtain ⟨j, hj, hjl, hje⟩ := scan_some ks ls n hsl.1
  have hjk : ks[j]? = some (ks.getD j 0) := by
    rw [List.getD_eq_getElem?_getD, List.getElem?_eq_getElem (by rw [h.kl]; exact hj)]; rfl
  have hjh : hbs[j]? = some (hbs[j]'(by rw [h.hl]; exact hj)) := List.getElem?_eq_getElem _
  have hjl' : ls[j]? = some true := by
    have : j < ls.length := by rw [h.ll]; exact hj
    rw [List.getD_eq_getElem?_getD, List.getElem?_eq_getElem this] at hjl
    rw [List.getElem?_eq_getElem this]; simpa using hjl
  have hmem : (ks.getD j 0, hbs[j]'(by rw [h.hl]; exact hj)) ∈ run ++ hp := h.perm.mem_iff.2 ((liveI_mem _ _ _ _).2 ⟨j, hjl', hjk, hjh⟩)
  have hle := low_least run hp h.asc h.heapy _ hmem
  have e : (scanTo ks ls n).2 = (low run hp).1 := by
    have := hsl.2
    simp only at hle
    omega
  exact Prod.ext hsl.1 e
end
end Go.Proofs.Ybulkdeew
