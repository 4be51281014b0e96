/-
  OWN WORK. 'copy' between slices whose element takes several cells.
-/
import Derived.Test.YbulkdeicMem
import Derived.Laws.CopyRow
import Derived.Laws.CopyOwn
namespace Go.Proofs.Ybulkdeic
open Go.RowKit

theorem run_copy_size {P : Program} (w : World) (dT sT ty elem : TypeId) (sz g o dLen dCap : Nat) (a : Addr) (sLen sCap : Nat) (cur : Array Value) (t : TypeId) (cs : List Value)
    (hu : P.underlying dT = some (.slice elem)) (hs : (P.info? elem).map (·.size) = some sz)
    (hg : w.heap[g]? = some (.cells cur t (0, 0))) (hn : cs.length = Nat.min sLen dLen * sz)
    (hsrc : ∀ j v, cs[j]? = some v → w.cell? (a.add j) = some v) (hfit : o + cs.length ≤ cur.size) (h1 : ∀ v ∈ cs, v.oneCell' = true) :
    (Builtin.copy_ #[dT, sT] ty #[.slice (some ⟨g, o, none⟩) dLen dCap, .slice (some a) sLen sCap]).run P w =
      .ok (goInt (Nat.min sLen dLen)) (w.setRow g (cur.toList.take o ++ cs ++ cur.toList.drop (o + cs.length)).toArray) := by
  have hl := run_loadCells_list (P := P) w a cs hsrc
  have hst := run_storeCells_at P g o t cs 0 cur w hg (by simpa using hfit) h1
  cases hq : P.info? elem with
  | none => simp [hq] at hs
  | some i =>
    have hi : i.size = sz := by simpa [hq] using hs
    simp [Builtin.copy_, run_underlying hu, Builtin.lenOf, Builtin.firstCells, sizeOf, typeInfo, hq, hi, ← hn, hl, hst]

theorem run_copy_zero {P : Program} (w : World) (dT sT ty elem : TypeId) (sz : Nat) (dp sp : Option Addr) (dLen dCap sLen sCap : Nat)
    (hu : P.underlying dT = some (.slice elem)) (hs : (P.info? elem).map (·.size) = some sz) (hn : Nat.min sLen dLen = 0) :
    (Builtin.copy_ #[dT, sT] ty #[.slice dp dLen dCap, .slice sp sLen sCap]).run P w = .ok (goInt 0) w := by
  cases hq : P.info? elem with
  | none => simp [hq] at hs
  | some i =>
    cases dp <;> cases sp <;> simp [Builtin.copy_, run_underlying hu, Builtin.lenOf, Builtin.firstCells, sizeOf, typeInfo, hq, hn, storeCells, loadCells, loadCellsFrom]

/-- 'copy' into the head of a row of the call's own. -/
theorem run_copy_head {P : Program} (w : World) (dT sT ty elem : TypeId) (sz : Nat) (hu : P.underlying dT = some (.slice elem)) (hsz : (P.info? elem).map (·.size) = some sz)
    (dp sp : Option Addr) (n dCap sCap g : Nat) (cur : Array Value) (t : TypeId) (hg : w.heap[g]? = some (.cells cur t (0, 0))) (cs : List Value) (hn : cs.length = n * sz)
    (hpos : 0 < n → dp = some ⟨g, 0, none⟩ ∧ ∃ ad, sp = some ad ∧ ∀ j v, cs[j]? = some v → w.cell? (ad.add j) = some v)
    (hfit : cs.length ≤ cur.size) (h1 : ∀ v ∈ cs, v.oneCell' = true) :
    ∃ w', (Builtin.copy_ #[dT, sT] ty #[.slice dp n dCap, .slice sp n sCap]).run P w = .ok (goInt n) w' ∧ w'.heap[g]? = some (.cells (cs ++ cur.toList.drop cs.length).toArray t (0, 0)) ∧
      (∀ B w0, Below B w0 w → B ≤ g → Below B w0 w') ∧ (∀ k, k ≠ g → w'.heap[k]? = w.heap[k]?) := by
  have hmin : Nat.min n n = n := Nat.min_self n
  by_cases h0 : n = 0
  · subst h0
    have hrun := run_copy_zero (P := P) w dT sT ty elem sz dp sp 0 dCap 0 sCap hu hsz rfl
    obtain rfl : cs = [] := List.eq_nil_of_length_eq_zero (by omega)
    exact ⟨w, hrun, by simpa using hg, fun _ _ hb _ => hb, fun _ _ => rfl⟩
  · obtain ⟨rfl, ad, rfl, hsrc⟩ := hpos (by omega)
    have hrun := run_copy_size (P := P) w dT sT ty elem sz g 0 n dCap ad n sCap cur t cs hu hsz hg (by rw [hmin]; exact hn) hsrc (by omega) h1
    rw [hmin] at hrun
    refine ⟨_, hrun, ?_, fun B w0 hb hB => below_setRow hb hB _, fun k hk => setRow_other w g k _ hk⟩
    have := setRow_heap w g cur (cs ++ cur.toList.drop cs.length).toArray t (0, 0) hg
    simpa using this

/-- 'make([]T, l, c)'. -/
theorem wpList_make_lc {P : Program} (w : World) {ops : Array Oper} {rest : List Oper} {o : Oper} {a : Act} {Q : Exit → Act → World → Prop}
    (hg : o.guard = none) (x y : Operand) (t : TypeId) (hop : o.op = Op.makeSlice t x y)
    (e : TypeId) (i : TypeInfo) (z : Value) (size : Nat) (h1 : P.underlying t = some (.slice e)) (h2 : P.info? e = some i) (h3 : i.zero = some z) (h4 : i.size = size)
    (kl kc : IntKind) (L C : Int) (l c : Nat) (hl : a.eval x = .int kl L) (hc : a.eval y = .int kc C) (hL : L = (l : Int)) (hC : C = (c : Int)) (hlc : l ≤ c) (b2 : (i.bytes : Int) * (c : Int) ≤ 281474976710656) (b3 : (c : Int) ≤ 9223372036854775807)
    (hK : wpList P ops Q rest (a.put o.dst (.slice (some ⟨w.heap.size, 0, none⟩) l c)) (w.alloc (.cells (madeCells z.cells (c * size)) e))) :
    wpList P ops Q (o :: rest) a w := by
  refine wpList_plain hg fun K hK' => ?_
  subst hL
  subst hC
  subst h4
  have hrun := run_make (P := P) w t e i z h1 h2 h3 kl kc (l : Int) (c : Int) (by omega) (by omega) b2 b3
  simp only [Int.toNat_natCast] at hrun
  unfold Oper.wp
  simp [execOp, hop, hl, hc, hrun, Result.andThen]
  exact hK' _ _ hK

/-- What a make and a copy of all of it leave. -/
theorem OwnsR.filled {w : World} {e : TypeId} {size g l c : Nat} {cs : List Value} {cur : Array Value} (hc : cs.length = l * size) (hcur : cur.size = c * size) (hlc : l ≤ c)
    (h : w.heap[g]? = some (.cells (cs ++ cur.toList.drop cs.length).toArray e (0, 0))) : OwnsR w e size (.slice (some ⟨g, 0, none⟩) l c) l cs := by
  refine ⟨hc, .inr ⟨g, 0, c, _, rfl, h, hlc, ?_, fun j hj => ?_⟩⟩
  · have : l * size ≤ c * size := Nat.mul_le_mul_right _ hlc
    simp [hcur]
    omega
  · rw [Nat.zero_add]
    simp [List.getElem?_append_left (show j < cs.length by omega)]
end Go.Proofs.Ybulkdeic
