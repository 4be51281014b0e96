/-
  OWN WORK. The words of the memory that the queue's walks speak: 'Ch S w w'' (only blocks of S have turned, or new ones), 'OwnsR' (a slice over a row of the call's own, at whatever offset), and the append onto such a slice.
-/
import Derived.WalkKit
import Derived.Below
import Derived.ArgAppend
import Derived.Deep.Draws
namespace Go.Proofs.Ybulkdeic
open Go.RowKit

/-- Of the blocks that were there only those of S may have turned. -/
structure Ch (S : Nat → Prop) (w w' : World) : Prop where
  os : w'.os = w.os
  tape : w'.tape = w.tape
  output : w'.output = w.output
  size : w.heap.size ≤ w'.heap.size
  block : ∀ k, k < w.heap.size → ¬ S k → w'.heap[k]? = w.heap[k]?

theorem Ch.refl (S : Nat → Prop) (w : World) : Ch S w w := ⟨rfl, rfl, rfl, Nat.le_refl _, fun _ _ _ => rfl⟩

theorem Ch.trans {S T : Nat → Prop} {a b c : World} (h : Ch S a b) (k : Ch T b c) (hst : ∀ x, x < a.heap.size → T x → S x) : Ch S a c :=
  ⟨k.os.trans h.os, k.tape.trans h.tape, k.output.trans h.output, Nat.le_trans h.size k.size,
   fun i hi hn => (k.block i (Nat.lt_of_lt_of_le hi h.size) (fun t => hn (hst i hi t))).trans (h.block i hi hn)⟩

theorem Ch.mono {S T : Nat → Prop} {a b : World} (h : Ch S a b) (hst : ∀ x, x < a.heap.size → S x → T x) : Ch T a b :=
  ⟨h.os, h.tape, h.output, h.size, fun i hi hn => h.block i hi fun s => hn (hst i hi s)⟩

theorem Ch.ofBelow {S : Nat → Prop} {w w' : World} (h : Below w.heap.size w w') : Ch S w w' := ⟨h.os, h.tape, h.output, h.size, fun k hk _ => h.block k hk⟩

theorem Ch.toBelow {S : Nat → Prop} {w w' : World} {B : Nat} (h : Ch S w w') (hB : B ≤ w.heap.size) (hs : ∀ x, x < w.heap.size → S x → B ≤ x) : Below B w w' :=
  ⟨h.os, h.tape, h.output, h.size, fun k hk => h.block k (by omega) fun s => by have := hs k (by omega) s; omega⟩

theorem Ch.ofGrown {S : Nat → Prop} {w w' : World} {row : Option Nat} (h : w.grownBy w' row) (hs : ∀ k, row = some k → S k) : Ch S w w' :=
  ⟨h.os, h.tape, h.output, h.size, fun k hk hn => h.block k hk fun e => hn (hs k e.symm)⟩

theorem Ch.setCell {S : Nat → Prop} {w w' : World} (h : Ch S w w') (p : Addr) (u : Value) (hp : p.block < w.heap.size → S p.block) : Ch S w (w'.setCell p u) :=
  ⟨h.os, h.tape, h.output, by simpa [World.setCell] using h.size, fun k hk hn => by
    rw [Below.heap_setCell _ _ _ _ (fun e => hn (by subst e; exact hp hk))]; exact h.block k hk hn⟩

theorem Ch.drewN {S : Nat → Prop} {w w' : World} (h : Ch S w w') (n : Nat) : Ch S w (w'.drewN n) := ⟨h.os, h.tape, h.output, h.size, h.block⟩
theorem Ch.drew {S : Nat → Prop} {w w' : World} (h : Ch S w w') : Ch S w w'.drew := ⟨h.os, h.tape, h.output, h.size, h.block⟩
theorem Ch.alloc {S : Nat → Prop} {w w' : World} (h : Ch S w w') (o : Obj) : Ch S w (w'.alloc o) :=
  ⟨h.os, h.tape, h.output, by have := h.size; simp; omega, fun k hk hn => by rw [Below.heap_alloc _ _ _ (Nat.lt_of_lt_of_le hk h.size)]; exact h.block k hk hn⟩

theorem Ch.setCells {S : Nat → Prop} {w : World} (b : Nat) (hb : b < w.heap.size → S b) : ∀ (vs : List Value) (o : Nat) (w' : World), Ch S w w' → Ch S w (w'.setCells b o vs)
  | [], _, _, h => h
  | v :: vs, o, w', h => by
    show Ch S w ((w'.setCell ⟨b, o, none⟩ v).setCells b (o + 1) vs)
    exact Ch.setCells b hb vs (o + 1) _ (h.setCell _ _ hb)

/-- A slice over a row of whole blocks of the call's own, at whatever offset: its elements' cells are xs. -/
def OwnsR (w : World) (e : TypeId) (size : Nat) (v : Value) (n : Nat) (xs : List Value) : Prop :=
  xs.length = n * size ∧ ((v = .slice none 0 0 ∧ n = 0) ∨
    ∃ g off cap cur, v = .slice (some ⟨g, off, none⟩) n cap ∧ w.heap[g]? = some (.cells cur e (0, 0)) ∧ n ≤ cap ∧ off + cap * size ≤ cur.size ∧ ∀ j, j < n * size → cur[off + j]? = xs[j]?)

section
variable {w : World} {e : TypeId} {size : Nat} {v : Value} {n : Nat} {xs : List Value}

theorem OwnsR.nil (w : World) (e : TypeId) (size : Nat) : OwnsR w e size (.slice none 0 0) 0 [] := ⟨by simp, .inl ⟨rfl, rfl⟩⟩

theorem OwnsR.ofRow {base : Nat} (h : w.ownsRow base e size v n xs) : OwnsR w e size v n xs := by
  refine ⟨h.1, ?_⟩
  rcases h.2 with hn | ⟨g, cap, cur, hv, _, hg, hc, _, hs, ht⟩
  · exact .inl hn
  · refine .inr ⟨g, 0, cap, cur, hv, hg, hc, by omega, fun j hj => ?_⟩
    rw [← ht, List.getElem?_take, if_pos hj]
    simp

theorem OwnsR.ownBlock_lt (h : OwnsR w e size v n xs) : ∀ k, v.ownBlock = some k → k < w.heap.size ∧ ∃ cur, w.heap[k]? = some (.cells cur e (0, 0)) := by
  intro k hk
  rcases h.2 with ⟨rfl, _⟩ | ⟨g, off, cap, cur, rfl, hg, _⟩
  · simp [Value.ownBlock] at hk
  · simp [Value.ownBlock] at hk
    subst hk
    exact ⟨(Array.getElem?_eq_some_iff.1 hg).1, cur, hg⟩

theorem OwnsR.kept {w' : World} (h : OwnsR w e size v n xs) (hk : ∀ k, v.ownBlock = some k → w'.heap[k]? = w.heap[k]?) : OwnsR w' e size v n xs := by
  refine ⟨h.1, ?_⟩
  rcases h.2 with hn | ⟨g, off, cap, cur, rfl, hg, r⟩
  · exact .inl hn
  · exact .inr ⟨g, off, cap, cur, rfl, (hk g rfl).trans hg, r⟩

theorem OwnsR.ch {S : Nat → Prop} {w' : World} (h : OwnsR w e size v n xs) (hc : Ch S w w') (hk : ∀ k, v.ownBlock = some k → ¬ S k) : OwnsR w' e size v n xs :=
  h.kept fun k e => hc.block k (h.ownBlock_lt k e).1 (hk k e)

theorem OwnsR.some_of (h : OwnsR w e size v n xs) (hn : 0 < n) : ∃ g off cap, v = .slice (some ⟨g, off, none⟩) n cap ∧ n ≤ cap := by
  rcases h.2 with ⟨_, h0⟩ | ⟨g, off, cap, cur, rfl, hg, hc, r⟩
  · omega
  · exact ⟨g, off, cap, rfl, hc⟩

theorem OwnsR.slice_of (h : OwnsR w e size v n xs) : ∃ ao cap, v = .slice ao n cap := by
  rcases h.2 with ⟨rfl, rfl⟩ | ⟨g, off, cap, cur, rfl, hg, hc, r⟩
  · exact ⟨_, _, rfl⟩
  · exact ⟨_, _, rfl⟩

theorem OwnsR.cell {g off cap : Nat} (h : OwnsR w e size (.slice (some ⟨g, off, none⟩) n cap) n xs) (j : Nat) (hj : j < n * size) : w.cell? ⟨g, off + j, none⟩ = xs[j]? := by
  rcases h.2 with ⟨h', _⟩ | ⟨g', off', cap', cur, h', hg, _, _, hc⟩
  · simp at h'
  · simp only [Value.slice.injEq, Option.some.injEq, Addr.mk.injEq, and_true, true_and] at h'
    obtain ⟨⟨rfl, rfl⟩, rfl⟩ := h'
    rw [cell_of_row w g _ cur e (0, 0) hg, hc j hj]

theorem OwnsR.free {g off cap : Nat} (h : OwnsR w e size (.slice (some ⟨g, off, none⟩) n cap) n xs) (j : Nat) : w.frozen? ⟨g, j, none⟩ = false := by
  rcases h.2 with ⟨h', _⟩ | ⟨g', off', cap', cur, h', hg, _, _, hc⟩
  · simp at h'
  · simp only [Value.slice.injEq, Option.some.injEq, Addr.mk.injEq, and_true, true_and] at h'
    obtain ⟨⟨rfl, rfl⟩, rfl⟩ := h'
    exact frozen_of_row w g j cur e hg

theorem OwnsR.block {g off cap : Nat} (h : OwnsR w e size (.slice (some ⟨g, off, none⟩) n cap) n xs) : ∃ cur, w.heap[g]? = some (.cells cur e (0, 0)) ∧ off + cap * size ≤ cur.size ∧ n ≤ cap := by
  rcases h.2 with ⟨h', _⟩ | ⟨g', off', cap', cur, h', hg, hn, hs, hc⟩
  · simp at h'
  · simp only [Value.slice.injEq, Option.some.injEq, Addr.mk.injEq, and_true, true_and] at h'
    obtain ⟨⟨rfl, rfl⟩, rfl⟩ := h'
    exact ⟨cur, hg, hs, hn⟩

/-- One store into the row. -/
theorem OwnsR.stored {g off cap : Nat} (h : OwnsR w e size (.slice (some ⟨g, off, none⟩) n cap) n xs) (j : Nat) (u : Value) (hj : j < n * size) :
    OwnsR (w.setCell ⟨g, off + j, none⟩ u) e size (.slice (some ⟨g, off, none⟩) n cap) n (xs.set j u) := by
  rcases h.2 with ⟨h', _⟩ | ⟨g', off', cap', cur, h', hg, hn, hs, hc⟩
  · simp at h'
  · simp only [Value.slice.injEq, Option.some.injEq, Addr.mk.injEq, and_true, true_and] at h'
    obtain ⟨⟨rfl, rfl⟩, rfl⟩ := h'
    have hm : n * size ≤ cap * size := Nat.mul_le_mul_right _ hn
    refine ⟨by simpa using h.1, .inr ⟨g, off, cap, cur.setIfInBounds (off + j) u, rfl, heap_setCell_same w g (off + j) cur e u hg, hn, by simpa using hs, fun i hi => ?_⟩⟩
    rw [Array.getElem?_setIfInBounds, List.getElem?_set]
    by_cases hij : j = i
    · subst hij
      rw [if_pos rfl, if_pos (by omega), if_pos rfl, if_pos (by rw [h.1]; exact hj)]
    · rw [if_neg (by omega), if_neg hij]
      exact hc i hi

/-- A store into another block. -/
theorem OwnsR.stored_other (h : OwnsR w e size v n xs) (a : Addr) (u : Value) (hne : ∀ k, v.ownBlock = some k → k ≠ a.block) : OwnsR (w.setCell a u) e size v n xs :=
  h.kept fun k hk => Below.heap_setCell _ _ _ _ (hne k hk)

theorem OwnsR.alloc (h : OwnsR w e size v n xs) (o : Obj) : OwnsR (w.alloc o) e size v n xs :=
  h.kept fun k hk => Below.heap_alloc _ _ _ (h.ownBlock_lt k hk).1
theorem OwnsR.drew (h : OwnsR w e size v n xs) : OwnsR w.drew e size v n xs := h
theorem OwnsR.drewN (h : OwnsR w e size v n xs) (k : Nat) : OwnsR (w.drewN k) e size v n xs := h
theorem OwnsR.below {w' : World} (h : OwnsR w e size v n xs) (hb : Below w.heap.size w w') : OwnsR w' e size v n xs :=
  h.kept fun k hk => hb.block k (h.ownBlock_lt k hk).1
end

theorem heap_setCells (b : Nat) (e : TypeId) : ∀ (vs : List Value) (o : Nat) (w : World) (cur : Array Value), w.heap[b]? = some (.cells cur e (0, 0)) → o + vs.length ≤ cur.size →
    ∃ cur', (w.setCells b o vs).heap[b]? = some (.cells cur' e (0, 0)) ∧ cur'.size = cur.size ∧ (∀ j, j < vs.length → cur'[o + j]? = vs[j]?) ∧ ∀ j, j < o ∨ o + vs.length ≤ j → cur'[j]? = cur[j]?
  | [], o, w, cur, h, _ => ⟨cur, h, rfl, fun j hj => by simp at hj, fun _ _ => rfl⟩
  | v :: vs, o, w, cur, h, hs => by
    simp only [List.length_cons] at hs
    obtain ⟨cur', h1, h2, h3, h4⟩ := heap_setCells b e vs (o + 1) (w.setCell ⟨b, o, none⟩ v) (cur.setIfInBounds o v) (heap_setCell_same w b o cur e v h) (by simp; omega)
    refine ⟨cur', h1, by simpa using h2, fun j hj => ?_, fun j hj => ?_⟩
    · cases j with
      | zero => rw [Nat.add_zero, h4 o (by omega), Array.getElem?_setIfInBounds, if_pos rfl, if_pos (by omega)]; rfl
      | succ j =>
        have := h3 j (by simpa using hj)
        rw [show o + (j + 1) = o + 1 + j by omega, this]; rfl
    · simp only [List.length_cons] at hj
      rw [h4 j (by omega), Array.getElem?_setIfInBounds, if_neg (by omega)]

/-- 'append(s, x)' of one element, s the call's own at whatever offset, nil or not, with room or not. -/
theorem wpList_append_ownsR {P : Program} (w : World) {ops : Array Oper} {rest : List Oper} {o : Oper} {a : Act} {Q : Exit → Act → World → Prop}
    (hgd : o.guard = none) (s x : Operand) (t : TypeId) (ho : o.op = Op.call { callee := Callee.builtin Builtin.append, args := #[s, x], argTypes := #[t, t] })
    (e : TypeId) (i : TypeInfo) (z : Value) (size bytes : Nat) (h1 : P.underlying t = some (.slice e)) (h2 : P.info? e = some i) (h3 : i.zero = some z) (h4 : i.size = size) (h5 : i.bytes = bytes) (h6 : z.cells.size = size) (h7 : 0 < size)
    (v : Value) (n : Nat) (xs : List Value) (hs : a.eval s = v) (hown : OwnsR w e size v n xs)
    (ad : Addr) (news : List Value) (hx : a.eval x = .slice (some ad) 1 1) (hn : news.length = size) (hc : ∀ j u, news[j]? = some u → w.cell? (ad.add j) = some u) (h1c : ∀ u ∈ news, u.oneCell' = true)
    (b1 : n + 1 ≤ maxLen) (b2 : (n + 1) * bytes ≤ 140737488355328)
    (hK0 : ∀ ao' cap' w', OwnsR w' e size (.slice ao' (n + 1) cap') (n + 1) (xs ++ news) → Ch (fun k => v.ownBlock = some k) w w' → (∀ k, (Value.slice ao' (n + 1) cap').ownBlock = some k → v.ownBlock = some k ∨ w.heap.size ≤ k) → wpList P ops Q rest (a.put o.dst (.slice ao' (n + 1) cap')) w') :
    wpList P ops Q (o :: rest) a w := by
  have hK : ∀ v' w', OwnsR w' e size v' (n + 1) (xs ++ news) → Ch (fun k => v.ownBlock = some k) w w' → (∀ k, v'.ownBlock = some k → v.ownBlock = some k ∨ w.heap.size ≤ k) → wpList P ops Q rest (a.put o.dst v') w' := by
    intro v' w' k1 k2 k3
    obtain ⟨ao', cap', rfl⟩ := k1.slice_of
    exact hK0 ao' cap' w' k1 k2 k3
  rcases hown.2 with ⟨rfl, rfl⟩ | ⟨g, off, cap, cur, rfl, hg, hcap, hsz, hcells⟩
  · obtain rfl : xs = [] := List.eq_nil_of_length_eq_zero (by simpa using hown.1)
    refine wpList_append_grows w hgd s x t ho e i z size bytes h1 h2 h3 h4 h5 h6 h7 none 0 0 [] hs (fun _ => ⟨rfl, rfl⟩) (by simp) (fun _ h => by cases h) ad 1 1 news hx (by omega) hc h1c (by omega) b1 b2 ?_
    intro v' w' r1 r2
    exact hK v' w' (OwnsR.ofRow r1) (Ch.ofGrown r2 (fun _ h => by cases h)) fun k hk => .inr (r1.lt k hk).1
  · have hm : n * size ≤ cap * size := Nat.mul_le_mul_right _ hcap
    refine wpList_append_arg w hgd s x t ho e i z size bytes h1 h2 h3 h4 h5 h6 h7 g off n cap xs hs hown.1 (fun j u hj => ?_) ad 1 1 news hx (by omega) hc h1c (fun hr j hj => ?_) b1 b2 (fun hr => ?_) (fun hr v' w' r1 r2 => ?_)
    · have hj' : j < n * size := by rw [← hown.1]; exact (List.getElem?_eq_some_iff.1 hj).1
      rw [hown.cell j hj', hj]
    · have : (n + 1) * size ≤ cap * size := Nat.mul_le_mul_right _ hr
      rw [Nat.add_mul] at this
      refine ⟨?_, frozen_of_row w g _ cur e hg⟩
      rw [cell_of_row w g _ cur e (0, 0) hg, Array.getElem?_eq_getElem (by omega)]
      rfl
    · have h8 : (n + 1) * size ≤ cap * size := Nat.mul_le_mul_right _ hr
      rw [Nat.add_mul] at h8
      obtain ⟨cur', k1, k2, k3, k4⟩ := heap_setCells g e news (off + n * size) w cur hg (by omega)
      refine hK _ _ ⟨by simp [hown.1, hn, Nat.add_mul], .inr ⟨g, off, cap, cur', rfl, k1, hr, by omega, fun j hj => ?_⟩⟩ (Ch.setCells (S := fun k => (Value.slice (some ⟨g, off, none⟩) n cap).ownBlock = some k) g (fun _ => rfl) _ _ _ (Ch.refl _ _)) (fun k hk => .inl hk)
      rw [Nat.add_mul, Nat.one_mul] at hj
      by_cases hjn : j < n * size
      · rw [k4 _ (by omega), hcells j hjn, List.getElem?_append_left (by rw [hown.1]; exact hjn)]
      · have := k3 (j - n * size) (by omega)
        rw [show off + n * size + (j - n * size) = off + j by omega] at this
        rw [this, List.getElem?_append_right (by rw [hown.1]; omega), hown.1]
    · exact hK v' w' (OwnsR.ofRow r1) (Ch.ofGrown r2 (fun _ h => by cases h)) fun k hk => .inr (r1.lt k hk).1

end Go.Proofs.Ybulkdeic
