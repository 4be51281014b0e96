/-
  OWN WORK. One push of the script: the three appends and the queue's push keep what holds.
-/
import Derived.Test.YbulkdeewCheck
namespace Go.Proofs.Ybulkdeew
open Go.RowKit

theorem OwnsR.keepBy {w w' : World} {e : TypeId} {size n : Nat} {v : Value} {xs : List Value} (h : OwnsR w e size v n xs) (hk : ∀ (x : Nat) (c : Array Value), w.heap[x]? = some (.cells c e (0, 0)) → w'.heap[x]? = some (.cells c e (0, 0))) : OwnsR w' e size v n xs :=
  h.kept fun k hkk => by
    obtain ⟨_, c, hc⟩ := h.ownBlock_lt k hkk
    rw [hk k c hc, hc]

/-- Where only the row of v has turned, a block of another kind is as it was. -/
theorem keep_tag {w w' : World} {e t : TypeId} {size n : Nat} {v : Value} {xs : List Value} (h : OwnsR w e size v n xs) (ch : Ch (fun k => v.ownBlock = some k) w w') (ht : t ≠ e) (x : Nat) (c : Array Value) (hx : w.heap[x]? = some (.cells c t (0, 0))) :
    w'.heap[x]? = some (.cells c t (0, 0)) := by
  rw [ch.block x (Array.getElem?_eq_some_iff.1 hx).1 (fun e' => ?_)]
  · exact hx
  · obtain ⟨_, c', hc'⟩ := h.ownBlock_lt x e'
    rw [hx] at hc'
    simp at hc'
    exact ht hc'.2

theorem QSt.keepBy {w w' : World} {qb : Nat} {rv hv : Value} {run hp : Its} (h : QSt w qb rv hv run hp) (h1 : ∀ (x : Nat) (c : Array Value), w.heap[x]? = some (.cells c 39 (0, 0)) → w'.heap[x]? = some (.cells c 39 (0, 0)))
    (h2 : ∀ (x : Nat) (c : Array Value), w.heap[x]? = some (.cells c 25 (0, 0)) → w'.heap[x]? = some (.cells c 25 (0, 0))) : QSt w' qb rv hv run hp :=
  ⟨h2 _ _ h.q, OwnsR.keepBy h.run h1, OwnsR.keepBy h.hp h1, h.apart, h.base⟩

/-- Where only the queue and its rows have turned. -/
theorem QSt.keep {w w' : World} {qb : Nat} {rv hv : Value} {run hp : Its} (h : QSt w qb rv hv run hp) (ch : Ch (fun x => x = qb ∨ rv.ownBlock = some x ∨ hv.ownBlock = some x) w w') {t : TypeId} (h1 : t ≠ 39) (h2 : t ≠ 25) (x : Nat) (c : Array Value) (hx : w.heap[x]? = some (.cells c t (0, 0))) :
    w'.heap[x]? = some (.cells c t (0, 0)) := by
  rw [ch.block x (Array.getElem?_eq_some_iff.1 hx).1 (h.notin hx h1 ?_)]
  · exact hx
  · rintro rfl
    rw [h.q] at hx
    simp at hx
    exact h2 hx.2.symm

theorem below_keep {w w' : World} (hb : Below w.heap.size w w') (t : TypeId) (x : Nat) (c : Array Value) (hx : w.heap[x]? = some (.cells c t (0, 0))) : w'.heap[x]? = some (.cells c t (0, 0)) := by
  rw [hb.block x (Array.getElem?_eq_some_iff.1 hx).1]; exact hx

/-- What holds ahead of 'push', behind the three appends. -/
structure Pre (w3 : World) (qb : Nat) (kv lv sv rv hv : Value) (run hp : Its) (n : Nat) (ks : List Int) (ls : List Bool) (hbs : List Nat) (k : Int) (hb : Nat) : Prop where
  q : QSt w3 qb rv hv run hp
  keys : OwnsR w3 27 1 kv (n + 1) ((ks ++ [k]).map keyV)
  live : OwnsR w3 4 1 lv (n + 1) ((ls ++ [true]).map Value.bool)
  hs : OwnsR w3 28 1 sv (n + 1) ((hbs ++ [hb]).map ptrV)
  held : ∀ j x : Nat, (hbs ++ [hb])[j]? = some x → w3.heap[x]? = some (.cells (heldCells j) 36 (0, 0))
  kb : ∀ x, kv.ownBlock = some x → qb < x
  lb : ∀ x, lv.ownBlock = some x → qb < x
  sb : ∀ x, sv.ownBlock = some x → qb < x

theorem Pre.of {w0 w1 w2 w3 : World} {qb : Nat} {kv lv sv kv' lv' sv' rv hv : Value} {run hp : Its} {n : Nat} {ks : List Int} {ls : List Bool} {hbs : List Nat} {k : Int} {hb : Nat}
    (h : SInv w0 qb kv lv sv rv hv run hp n ks ls hbs) (hh : w0.heap[hb]? = some (.cells (heldCells n) 36 (0, 0)))
    (c1 : Ch (fun x => kv.ownBlock = some x) w0 w1) (o1 : OwnsR w1 27 1 kv' (n + 1) (ks.map keyV ++ [keyV k])) (n1 : ∀ x, kv'.ownBlock = some x → kv.ownBlock = some x ∨ w0.heap.size ≤ x)
    (c2 : Ch (fun x => lv.ownBlock = some x) w1 w2) (o2 : OwnsR w2 4 1 lv' (n + 1) (ls.map Value.bool ++ [Value.bool true])) (n2 : ∀ x, lv'.ownBlock = some x → lv.ownBlock = some x ∨ w1.heap.size ≤ x)
    (c3 : Ch (fun x => sv.ownBlock = some x) w2 w3) (o3 : OwnsR w3 28 1 sv' (n + 1) (hbs.map ptrV ++ [ptrV hb])) (n3 : ∀ x, sv'.ownBlock = some x → sv.ownBlock = some x ∨ w2.heap.size ≤ x) :
    Pre w3 qb kv' lv' sv' rv hv run hp n ks ls hbs k hb ∧ Below qb w0 w3 := by
  have k1 := fun (t : TypeId) (ht : t ≠ 27) => keep_tag h.keys c1 ht
  have hl1 : OwnsR w1 4 1 lv n (ls.map Value.bool) := h.live.keepBy (k1 4 (by decide))
  have hs1 : OwnsR w1 28 1 sv n (hbs.map ptrV) := h.hs.keepBy (k1 28 (by decide))
  have k2 := fun (t : TypeId) (ht : t ≠ 4) => keep_tag hl1 c2 ht
  have hs2 : OwnsR w2 28 1 sv n (hbs.map ptrV) := hs1.keepBy (k2 28 (by decide))
  have k3 := fun (t : TypeId) (ht : t ≠ 28) => keep_tag hs2 c3 ht
  have hq3 : QSt w3 qb rv hv run hp := ((h.q.keepBy (k1 39 (by decide)) (k1 25 (by decide))).keepBy (k2 39 (by decide)) (k2 25 (by decide))).keepBy (k3 39 (by decide)) (k3 25 (by decide))
  have hlt := h.q.lt
  have z1 := c1.size
  have z2 := c2.size
  refine ⟨⟨hq3, ?_, ?_, ?_, ?_, ?_, ?_, ?_⟩, ?_⟩
  · rw [List.map_append]; exact (o1.keepBy (k2 27 (by decide))).keepBy (k3 27 (by decide))
  · rw [List.map_append]; exact o2.keepBy (k3 4 (by decide))
  · rw [List.map_append]; exact o3
  · intro j x hj
    refine k3 36 (by decide) x _ (k2 36 (by decide) x _ (k1 36 (by decide) x _ ?_))
    by_cases hjn : j < n
    · rw [List.getElem?_append_left (by rw [h.hl]; exact hjn)] at hj
      exact h.held j x hj
    · have hjl := (List.getElem?_eq_some_iff.1 hj).1
      simp [h.hl] at hjl
      obtain rfl : j = n := by omega
      rw [List.getElem?_append_right (by rw [h.hl]; exact Nat.le_refl _), h.hl, Nat.sub_self] at hj
      simp at hj
      subst hj
      exact hh
  · intro x hx
    rcases n1 x hx with e | e
    · exact h.kb x e
    · omega
  · intro x hx
    rcases n2 x hx with e | e
    · exact h.lb x e
    · omega
  · intro x hx
    rcases n3 x hx with e | e
    · exact h.sb x e
    · omega
  · exact ((c1.toBelow (by omega) (fun x _ e => Nat.le_of_lt (h.kb x e))).trans (c2.toBelow (by omega) (fun x _ e => Nat.le_of_lt (h.lb x e)))).trans (c3.toBelow (by omega) (fun x _ e => Nat.le_of_lt (h.sb x e)))

theorem Pre.after {w3 w4 : World} {qb : Nat} {kv lv sv rv hv rv' hv' : Value} {run hp run' hp' : Its} {n : Nat} {ks : List Int} {ls : List Bool} {hbs : List Nat} {k : Int} {hb : Nat}
    (h : Pre w3 qb kv lv sv rv hv run hp n ks ls hbs k hb) (kl : ks.length = n) (ll : ls.length = n) (hl : hbs.length = n) (perm : (run ++ hp).Perm (liveI ks ls hbs))
    (q' : QSt w4 qb rv' hv' run' hp') (a' : Asc run') (h' : IsHeap hp') (p' : (run' ++ hp').Perm (run ++ hp ++ [(k, hb)]))
    (ch : Ch (fun x => x = qb ∨ rv.ownBlock = some x ∨ hv.ownBlock = some x) w3 w4) :
    SInv w4 qb kv lv sv rv' hv' run' hp' (n + 1) (ks ++ [k]) (ls ++ [true]) (hbs ++ [hb]) ∧ Below qb w3 w4 := by
  have hlt := h.q.lt
  refine ⟨{ q := q', asc := a', heapy := h', kl := by simp [kl], ll := by simp [ll], hl := by simp [hl], perm := ?_, keys := h.keys.keepBy (h.q.keep ch (by decide) (by decide)), live := h.live.keepBy (h.q.keep ch (by decide) (by decide)), hs := h.hs.keepBy (h.q.keep ch (by decide) (by decide)), held := fun j x hj => h.q.keep ch (by decide) (by decide) x _ (h.held j x hj), kb := h.kb, lb := h.lb, sb := h.sb }, ?_⟩
  · rw [liveI_snoc ks ls hbs k hb (by omega) (by omega)]
    exact p'.trans (List.Perm.append_right _ perm)
  · exact ch.toBelow (by omega) (fun x _ hS => by
      rcases hS with rfl | e | e
      · exact Nat.le_refl _
      · exact Nat.le_of_lt (h.q.base x (.inl e))
      · exact Nat.le_of_lt (h.q.base x (.inr e)))

end Go.Proofs.Ybulkdeew
