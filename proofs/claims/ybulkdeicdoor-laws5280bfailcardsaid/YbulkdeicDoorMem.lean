/-
  OWN WORK. The words of the memory: 'Ch S w w'' (only blocks of S have turned, or new ones), 'Own' (a slice over a row of the call's own), the append onto such a slice, with where its row then lies.
-/
import Derived.WalkKit
import Derived.Below
import Derived.ArgAppend
import Derived.Deep.Draws
import Derived.Lib.AppendStr
namespace Go.Proofs.YbulkdeicDoor
open Go.RowKit

/-- Of the blocks that were there only those of S may have turned. -/
structure Ch (S : Nat → Prop) (w w' : World) : Prop where
  os : w'.os = w.os
  tape : w'.tape = w.tape
  output : w'.output = w.output
  size : w.heap.size ≤ w'.heap.size
  block : ∀ k, k < w.heap.size → ¬ S k → w'.heap[k]? = w.heap[k]?

theorem Ch.refl (S : Nat → Prop) (w : World) : Ch S w w := ⟨rfl, rfl, rfl, Nat.le_refl _, fun _ _ _ => rfl⟩

theorem Ch.trans {S T : Nat → Prop} {a b c : World} (h : Ch S a b) (k : Ch T b c) (hst : ∀ x, x < a.heap.size → T x → S x) : Ch S a c :=
  ⟨k.os.trans h.os, k.tape.trans h.tape, k.output.trans h.output, Nat.le_trans h.size k.size,
   fun i hi hn => (k.block i (Nat.lt_of_lt_of_le hi h.size) (fun t => hn (hst i hi t))).trans (h.block i hi hn)⟩

theorem Ch.mono {S T : Nat → Prop} {a b : World} (h : Ch S a b) (hst : ∀ x, x < a.heap.size → S x → T x) : Ch T a b :=
  ⟨h.os, h.tape, h.output, h.size, fun i hi hn => h.block i hi fun s => hn (hst i hi s)⟩

theorem Ch.ofBelow {S : Nat → Prop} {w w' : World} (h : Below w.heap.size w w') : Ch S w w' := ⟨h.os, h.tape, h.output, h.size, fun k hk _ => h.block k hk⟩

theorem Ch.toBelow {S : Nat → Prop} {w w' : World} {B : Nat} (h : Ch S w w') (hB : B ≤ w.heap.size) (hs : ∀ x, x < w.heap.size → S x → B ≤ x) : Below B w w' :=
  ⟨h.os, h.tape, h.output, h.size, fun k hk => h.block k (by omega) fun s => by have := hs k (by omega) s; omega⟩

theorem Ch.ofGrown {S : Nat → Prop} {w w' : World} {row : Option Nat} (h : w.grownBy w' row) (hs : ∀ k, row = some k → S k) : Ch S w w' :=
  ⟨h.os, h.tape, h.output, h.size, fun k hk hn => h.block k hk fun e => hn (hs k e.symm)⟩

theorem Ch.setCell {S : Nat → Prop} {w w' : World} (h : Ch S w w') (p : Addr) (u : Value) (hp : p.block < w.heap.size → S p.block) : Ch S w (w'.setCell p u) :=
  ⟨h.os, h.tape, h.output, by simpa [World.setCell] using h.size, fun k hk hn => by
    rw [Below.heap_setCell _ _ _ _ (fun e => hn (by subst e; exact hp hk))]; exact h.block k hk hn⟩

theorem Ch.drewN {S : Nat → Prop} {w w' : World} (h : Ch S w w') (n : Nat) : Ch S w (w'.drewN n) := ⟨h.os, h.tape, h.output, h.size, h.block⟩
theorem Ch.drew {S : Nat → Prop} {w w' : World} (h : Ch S w w') : Ch S w w'.drew := ⟨h.os, h.tape, h.output, h.size, h.block⟩
theorem Ch.alloc {S : Nat → Prop} {w w' : World} (h : Ch S w w') (o : Obj) : Ch S w (w'.alloc o) :=
  ⟨h.os, h.tape, h.output, by have := h.size; simp; omega, fun k hk hn => by rw [Below.heap_alloc _ _ _ (Nat.lt_of_lt_of_le hk h.size)]; exact h.block k hk hn⟩

theorem Ch.setCells {S : Nat → Prop} {w : World} (b : Nat) (hb : b < w.heap.size → S b) : ∀ (vs : List Value) (o : Nat) (w' : World), Ch S w w' → Ch S w (w'.setCells b o vs)
  | [], _, _, h => h
  | v :: vs, o, w', h => by
    show Ch S w ((w'.setCell ⟨b, o, none⟩ v).setCells b (o + 1) vs)
    exact Ch.setCells b hb vs (o + 1) _ (h.setCell _ _ hb)


/-- A slice over a row of the call's own. -/
def Own (w : World) (e : TypeId) (size : Nat) (v : Value) (n : Nat) (xs : List Value) : Prop := w.ownsRow 0 e size v n xs

/-- The new value's row is the old one's, or new. -/
def Fresh (w : World) (v v' : Value) : Prop := ∀ k, v'.ownBlock = some k → v.ownBlock = some k ∨ w.heap.size ≤ k

section
variable {w : World} {e : TypeId} {size : Nat} {v : Value} {n : Nat} {xs : List Value}

theorem Own.nil (w : World) (e : TypeId) (size : Nat) : Own w e size (.slice none 0 0) 0 [] := World.ownsRow_nil w 0 e size

theorem Own.at (h : Own w e size v n xs) : ∀ k, v.ownBlock = some k → k < w.heap.size ∧ ∃ cur, w.heap[k]? = some (.cells cur e (0, 0)) := by
  intro k hk
  rcases h.2 with ⟨rfl, _⟩ | ⟨g, cap, cur, rfl, _, hg, _⟩
  · simp [Value.ownBlock] at hk
  · simp [Value.ownBlock] at hk
    subst hk
    exact ⟨(Array.getElem?_eq_some_iff.1 hg).1, cur, hg⟩

theorem Own.ne (h : Own w e size v n xs) {b : Nat} {cs : Array Value} {T : TypeId} {fr : Nat × Nat} (hb : w.heap[b]? = some (.cells cs T fr)) (hT : T ≠ e) : v.ownBlock ≠ some b := by
  intro hk
  obtain ⟨_, cur, hc⟩ := h.at b hk
  rw [hb] at hc
  cases hc
  exact hT rfl

theorem Own.kept {w' : World} (h : Own w e size v n xs) (hk : ∀ k, v.ownBlock = some k → w'.heap[k]? = w.heap[k]?) : Own w' e size v n xs := by
  refine ⟨h.1, ?_⟩
  rcases h.2 with hn | ⟨g, cap, cur, rfl, hb, hg, r⟩
  · exact .inl hn
  · exact .inr ⟨g, cap, cur, rfl, hb, (hk g rfl).trans hg, r⟩

theorem Own.ch {S : Nat → Prop} {w' : World} (h : Own w e size v n xs) (hc : Ch S w w') (hk : ∀ k, v.ownBlock = some k → ¬ S k) : Own w' e size v n xs :=
  h.kept fun k e => hc.block k (h.at k e).1 (hk k e)

theorem Own.slice_of (h : Own w e size v n xs) : ∃ ao cap, v = .slice ao n cap := by
  rcases h.2 with ⟨rfl, rfl⟩ | ⟨g, cap, cur, rfl, _⟩
  · exact ⟨_, _, rfl⟩
  · exact ⟨_, _, rfl⟩

theorem Own.some_of (h : Own w e size v n xs) (hn : 0 < n) : ∃ g cap, v = .slice (some ⟨g, 0, none⟩) n cap ∧ n ≤ cap := by
  rcases h.2 with ⟨_, h0⟩ | ⟨g, cap, cur, rfl, _, _, hc, _⟩
  · omega
  · exact ⟨g, cap, rfl, hc⟩

theorem Own.block {g cap : Nat} (h : Own w e size (.slice (some ⟨g, 0, none⟩) n cap) n xs) : ∃ cur, w.heap[g]? = some (.cells cur e (0, 0)) ∧ cur.size = cap * size ∧ n ≤ cap ∧ cur.toList.take (n * size) = xs := by
  rcases h.2 with ⟨h', _⟩ | ⟨g', cap', cur, h', _, hg, hn, _, hs, hc⟩
  · simp at h'
  · simp only [Value.slice.injEq, Option.some.injEq, Addr.mk.injEq, and_true, true_and] at h'
    obtain ⟨rfl, rfl⟩ := h'
    exact ⟨cur, hg, hs, hn, hc⟩

theorem Own.cell {g cap : Nat} (h : Own w e size (.slice (some ⟨g, 0, none⟩) n cap) n xs) (j : Nat) (hj : j < n * size) : w.cell? ⟨g, j, none⟩ = xs[j]? := by
  obtain ⟨cur, hg, _, _, hc⟩ := h.block
  rw [cell_of_row w g _ cur e (0, 0) hg, ← hc, List.getElem?_take, if_pos hj]
  simp

theorem Own.alloc (h : Own w e size v n xs) (o : Obj) : Own (w.alloc o) e size v n xs :=
  h.kept fun k hk => Below.heap_alloc _ _ _ (h.at k hk).1
theorem Own.drew (h : Own w e size v n xs) : Own w.drew e size v n xs := h
theorem Own.drewN (h : Own w e size v n xs) (k : Nat) : Own (w.drewN k) e size v n xs := h
theorem Own.setCell (h : Own w e size v n xs) (a : Addr) (u : Value) (hne : v.ownBlock ≠ some a.block) : Own (w.setCell a u) e size v n xs :=
  h.kept fun k hk => Below.heap_setCell _ _ _ _ (fun e => hne (by rw [← e]; exact hk))

/-- 's[:0]'. -/
theorem Own.head (h : Own w e size v n xs) : ∃ v', Own w e size v' 0 [] ∧ v'.ownBlock = v.ownBlock ∧ ((v = .slice none 0 0 ∧ v' = v) ∨ ∃ g cap, v = .slice (some ⟨g, 0, none⟩) n cap ∧ v' = .slice (some ⟨g, 0, none⟩) 0 cap) := by
  rcases h.2 with ⟨rfl, rfl⟩ | ⟨g, cap, cur, rfl, hb, hg, hc, hm, hs, _⟩
  · exact ⟨_, .nil w e size, rfl, .inl ⟨rfl, rfl⟩⟩
  · exact ⟨.slice (some ⟨g, 0, none⟩) 0 cap, ⟨by simp, .inr ⟨g, cap, cur, rfl, hb, hg, by omega, hm, hs, by simp⟩⟩, rfl, .inr ⟨g, cap, rfl, rfl⟩⟩
end

section
variable {P : Program} (w : World)

/-- 'append(s, xs...)', one end whatever the room. -/
theorem run_append_Own (t ty e : TypeId) (i : TypeInfo) (z : Value) (size bytes : Nat) (ht : P.underlying t = some (.slice e)) (hi : P.info? e = some i) (hz : i.zero = some z)
    (hsize : i.size = size) (hby : i.bytes = bytes) (hzs : z.cells.size = size) (hsz : 0 < size)
    (v : Value) (n : Nat) (xs : List Value) (hown : Own w e size v n xs)
    (a : Addr) (m c : Nat) (news : List Value) (hl : news.length = m * size) (hnews : ∀ j u, news[j]? = some u → w.cell? (a.add j) = some u) (h1 : ∀ u ∈ news, u.oneCell' = true)
    (h63 : n + m ≤ maxLen) (hbytes : (n + m) * bytes ≤ 140737488355328) :
    ∃ ao' cap' w', (Builtin.append_ #[t, t] ty #[v, .slice (some a) m c]).run P w = .ok (.slice ao' (n + m) cap') w' ∧ Own w' e size (.slice ao' (n + m) cap') (n + m) (xs ++ news) ∧ Ch (fun k => v.ownBlock = some k) w w' ∧ Fresh w v (.slice ao' (n + m) cap') := by
  obtain ⟨v', w', hr, ho, hg, _⟩ := run_append_own (P := P) w 0 t ty e i z size bytes ht hi hz hsize hby hzs hsz v n xs hown a m c news hl hnews h1 h63 hbytes (Nat.zero_le _)
  obtain ⟨ao, cap, rfl⟩ := Own.slice_of ho
  refine ⟨ao, cap, w', hr, ho, Ch.ofGrown hg (fun _ h => h), ?_⟩
  rcases hown.2 with ⟨rfl, rfl⟩ | ⟨g, cap0, cur, rfl, hbg, hgg, hnc, hcm, hcs, htake⟩
  · obtain rfl : xs = [] := List.eq_nil_of_length_eq_zero (by simpa using hown.1)
    obtain ⟨v2, w2, hr2, ho2, _, _⟩ := run_append_own (P := P) w w.heap.size t ty e i z size bytes ht hi hz hsize hby hzs hsz (.slice none 0 0) 0 [] (World.ownsRow_nil w _ e size) a m c news hl hnews h1 h63 hbytes (Nat.le_refl _)
    rw [hr] at hr2
    cases hr2
    exact fun k hk => .inr (ho2.lt k hk).1
  · by_cases hroom : n + m ≤ cap0
    · subst hsize
      have hfit : n * i.size + news.length ≤ cur.size := by rw [hl, hcs, ← Nat.add_mul]; exact Nat.mul_le_mul_right _ hroom
      have hr2 := run_append_room (P := P) w t ty e i ht hi g n cap0 cur hgg a m c news hl hnews h1 hroom hfit
      rw [hr] at hr2
      cases hr2
      exact fun k hk => .inl hk
    · obtain ⟨v2, w2, hr2, ho2, _⟩ := run_append_arg_grows (P := P) w t ty e i z size bytes ht hi hz hsize hby hzs hsz ⟨g, 0, none⟩ n cap0 xs hown.1 (World.ownsRow.cells hown (g := g) rfl) a m c news hl hnews (by omega) h63 hbytes
      rw [hr] at hr2
      cases hr2
      exact fun k hk => .inr (ho2.lt k hk).1

/-- 'append(s, t...)', t a string. -/
theorem run_append_Own_string (t u ty e : TypeId) (i : TypeInfo) (ht : P.underlying t = some (.slice e)) (hu : P.underlying u = some .string) (hi : P.info? e = some i) (hz : i.zero = some (.int .u8 0))
    (hsize : i.size = 1) (hby : i.bytes = 1)
    (v : Value) (n : Nat) (xs : List Value) (hown : Own w e 1 v n xs) (s : ByteArray)
    (h63 : n + s.size ≤ maxLen) (hbytes : n + s.size ≤ 140737488355328) :
    ∃ ao' cap' w', (Builtin.append_ #[t, u] ty #[v, .string s]).run P w = .ok (.slice ao' (n + s.size) cap') w' ∧ Own w' e 1 (.slice ao' (n + s.size) cap') (n + s.size) (xs ++ Lib.strCells s) ∧ Ch (fun k => v.ownBlock = some k) w w' ∧ Fresh w v (.slice ao' (n + s.size) cap') := by
  obtain ⟨v', w', hr, ho, hg, _⟩ := Lib.run_append_own_string (P := P) w 0 t u ty e i ht hu hi hz hsize hby v n xs hown s h63 hbytes (Nat.zero_le _)
  obtain ⟨ao, cap, rfl⟩ := Own.slice_of ho
  refine ⟨ao, cap, w', hr, ho, Ch.ofGrown hg (fun _ h => h), ?_⟩
  rcases hown.2 with ⟨rfl, rfl⟩ | ⟨g, cap0, cur, rfl, hbg, hgg, hnc, hcm, hcs, htake⟩
  · obtain rfl : xs = [] := List.eq_nil_of_length_eq_zero (by simpa using hown.1)
    obtain ⟨v2, w2, hr2, ho2, _, _⟩ := Lib.run_append_own_string (P := P) w w.heap.size t u ty e i ht hu hi hz hsize hby (.slice none 0 0) 0 [] (World.ownsRow_nil w _ e 1) s h63 hbytes (Nat.le_refl _)
    rw [hr] at hr2
    cases hr2
    exact fun k hk => .inr (ho2.lt k hk).1
  · by_cases hroom : n + s.size ≤ cap0
    · have hr2 := Lib.run_append_room_string (P := P) w t u ty e i ht hu hi hsize g n cap0 cur hgg s hroom (by omega)
      rw [hr] at hr2
      cases hr2
      exact fun k hk => .inl hk
    · have hxl : xs.length = n := by simpa using hown.1
      have hr2 := Lib.run_append_grow_string (P := P) w t u ty e i (.int .u8 0) ht hu hi hz ⟨g, 0, none⟩ n cap0 xs (by rw [hsize]; simpa using hxl) (World.ownsRow.cells hown (g := g) rfl) s (by omega) (by simp only [maxLen] at h63; omega) (by rw [hby]; exact growslice_fits (by omega) (by omega))
      rw [hr] at hr2
      cases hr2
      exact fun k hk => .inr (by simp [Value.ownBlock] at hk; omega)

variable {ops : Array Oper} {rest : List Oper} {o : Oper} {a : Act} {Q : Exit → Act → World → Prop}

theorem wpList_append_Own (hgd : o.guard = none) (s x : Operand) (t : TypeId)
    (ho : o.op = .call { callee := .builtin .append, args := #[s, x], argTypes := #[t, t] })
    (e : TypeId) (i : TypeInfo) (z : Value) (size bytes : Nat) (ht : P.underlying t = some (.slice e)) (hi : P.info? e = some i) (hz : i.zero = some z)
    (hsize : i.size = size) (hby : i.bytes = bytes) (hzs : z.cells.size = size) (hsz : 0 < size)
    (v : Value) (n : Nat) (xs : List Value) (hs : a.eval s = v) (hown : Own w e size v n xs)
    (ad : Addr) (m c : Nat) (news : List Value) (hx : a.eval x = .slice (some ad) m c) (hl : news.length = m * size) (hnews : ∀ j u, news[j]? = some u → w.cell? (ad.add j) = some u) (h1 : ∀ u ∈ news, u.oneCell' = true)
    (h63 : n + m ≤ maxLen) (hbytes : (n + m) * bytes ≤ 140737488355328)
    (h : ∀ ao' cap' w', Own w' e size (.slice ao' (n + m) cap') (n + m) (xs ++ news) → Ch (fun k => v.ownBlock = some k) w w' → Fresh w v (.slice ao' (n + m) cap') → wpList P ops Q rest (a.put o.dst (.slice ao' (n + m) cap')) w') : wpList P ops Q (o :: rest) a w := by
  refine wpList_plain hgd fun K hK => ?_
  obtain ⟨ao', cap', w', hr, h2, h3, h4⟩ := run_append_Own (P := P) w t o.type e i z size bytes ht hi hz hsize hby hzs hsz v n xs hown ad m c news hl hnews h1 h63 hbytes
  unfold Oper.wp execOp
  simp only [ho, resolve, invoke, builtin, Sem.run_bind, Sem.run_pure, Result.andThen_ok, List.map_toArray, List.map_cons, List.map_nil, hs, hx, hr]
  exact hK _ _ (h ao' cap' w' h2 h3 h4)

theorem wpList_append_Own_string (hgd : o.guard = none) (sl x : Operand) (t u : TypeId)
    (ho : o.op = .call { callee := .builtin .append, args := #[sl, x], argTypes := #[t, u] })
    (e : TypeId) (i : TypeInfo) (ht : P.underlying t = some (.slice e)) (hu : P.underlying u = some .string) (hi : P.info? e = some i) (hz : i.zero = some (.int .u8 0))
    (hsize : i.size = 1) (hby : i.bytes = 1)
    (v : Value) (n : Nat) (xs : List Value) (hs : a.eval sl = v) (hown : Own w e 1 v n xs) (s : ByteArray) (hx : a.eval x = .string s)
    (h63 : n + s.size ≤ maxLen) (hbytes : n + s.size ≤ 140737488355328)
    (h : ∀ ao' cap' w', Own w' e 1 (.slice ao' (n + s.size) cap') (n + s.size) (xs ++ Lib.strCells s) → Ch (fun k => v.ownBlock = some k) w w' → Fresh w v (.slice ao' (n + s.size) cap') → wpList P ops Q rest (a.put o.dst (.slice ao' (n + s.size) cap')) w') : wpList P ops Q (o :: rest) a w := by
  refine wpList_plain hgd fun K hK => ?_
  obtain ⟨ao', cap', w', hr, h2, h3, h4⟩ := run_append_Own_string (P := P) w t u o.type e i ht hu hi hz hsize hby v n xs hown s h63 hbytes
  unfold Oper.wp execOp
  simp only [ho, resolve, invoke, builtin, Sem.run_bind, Sem.run_pure, Result.andThen_ok, List.map_toArray, List.map_cons, List.map_nil, hs, hx, hr]
  exact hK _ _ (h ao' cap' w' h2 h3 h4)

/-- The same as one step of a region that draws. -/
theorem step_append_Own {K : Act → World → Prop} {E : Prop} (hgd : o.guard = none) (s x : Operand) (t : TypeId)
    (ho : o.op = .call { callee := .builtin .append, args := #[s, x], argTypes := #[t, t] })
    (e : TypeId) (i : TypeInfo) (z : Value) (size bytes : Nat) (ht : P.underlying t = some (.slice e)) (hi : P.info? e = some i) (hz : i.zero = some z)
    (hsize : i.size = size) (hby : i.bytes = bytes) (hzs : z.cells.size = size) (hsz : 0 < size)
    (v : Value) (n : Nat) (xs : List Value) (hs : a.eval s = v) (hown : Own w e size v n xs)
    (ad : Addr) (m c : Nat) (news : List Value) (hx : a.eval x = .slice (some ad) m c) (hl : news.length = m * size) (hnews : ∀ j u, news[j]? = some u → w.cell? (ad.add j) = some u) (h1 : ∀ u ∈ news, u.oneCell' = true)
    (h63 : n + m ≤ maxLen) (hbytes : (n + m) * bytes ≤ 140737488355328)
    (h : ∀ ao' cap' w', Own w' e size (.slice ao' (n + m) cap') (n + m) (xs ++ news) → Ch (fun k => v.ownBlock = some k) w w' → Fresh w v (.slice ao' (n + m) cap') → K (a.put o.dst (.slice ao' (n + m) cap')) w') :
    if Region.wanted o (yielded ops a.tmps) = true then Oper.wp P o a w K Q else E := by
  have hw : Region.wanted o (yielded ops a.tmps) = true := by simp [Region.wanted, hgd]
  rw [if_pos hw]
  obtain ⟨ao', cap', w', hr, h2, h3, h4⟩ := run_append_Own (P := P) w t o.type e i z size bytes ht hi hz hsize hby hzs hsz v n xs hown ad m c news hl hnews h1 h63 hbytes
  unfold Oper.wp execOp
  simp only [ho, resolve, invoke, builtin, Sem.run_bind, Sem.run_pure, Result.andThen_ok, List.map_toArray, List.map_cons, List.map_nil, hs, hx, hr]
  exact h ao' cap' w' h2 h3 h4

theorem step_append_Own_string {K : Act → World → Prop} {E : Prop} (hgd : o.guard = none) (sl x : Operand) (t u : TypeId)
    (ho : o.op = .call { callee := .builtin .append, args := #[sl, x], argTypes := #[t, u] })
    (e : TypeId) (i : TypeInfo) (ht : P.underlying t = some (.slice e)) (hu : P.underlying u = some .string) (hi : P.info? e = some i) (hz : i.zero = some (.int .u8 0))
    (hsize : i.size = 1) (hby : i.bytes = 1)
    (v : Value) (n : Nat) (xs : List Value) (hs : a.eval sl = v) (hown : Own w e 1 v n xs) (s : ByteArray) (hx : a.eval x = .string s)
    (h63 : n + s.size ≤ maxLen) (hbytes : n + s.size ≤ 140737488355328)
    (h : ∀ ao' cap' w', Own w' e 1 (.slice ao' (n + s.size) cap') (n + s.size) (xs ++ Lib.strCells s) → Ch (fun k => v.ownBlock = some k) w w' → Fresh w v (.slice ao' (n + s.size) cap') → K (a.put o.dst (.slice ao' (n + s.size) cap')) w') :
    if Region.wanted o (yielded ops a.tmps) = true then Oper.wp P o a w K Q else E := by
  have hw : Region.wanted o (yielded ops a.tmps) = true := by simp [Region.wanted, hgd]
  rw [if_pos hw]
  obtain ⟨ao', cap', w', hr, h2, h3, h4⟩ := run_append_Own_string (P := P) w t u o.type e i ht hu hi hz hsize hby v n xs hown s h63 hbytes
  unfold Oper.wp execOp
  simp only [ho, resolve, invoke, builtin, Sem.run_bind, Sem.run_pure, Result.andThen_ok, List.map_toArray, List.map_cons, List.map_nil, hs, hx, hr]
  exact h ao' cap' w' h2 h3 h4
end

end Go.Proofs.YbulkdeicDoor
