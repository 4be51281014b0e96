/-
  OWN WORK. The plain mathematics of the heap's pop.
-/
import Derived.Test.YbulkdeewHeap
namespace Go.Proofs.Ybulkdeew
attribute [local simp] swapL_length

def HeapDown (xs : Its) (i : Nat) : Prop := (∀ j, 0 < j → j < xs.length → (j - 1) / 2 ≠ i → K xs ((j - 1) / 2) ≤ K xs j) ∧ ∀ j, 0 < j → j < xs.length → (j - 1) / 2 = i → 0 < i → K xs ((i - 1) / 2) ≤ K xs j

/-- The lower of i and of its first j children. -/
def lowAt (xs : Its) (m i : Nat) : Nat → Nat
  | 0 => i
  | j + 1 => if 2 * i + (j + 1) < m ∧ K xs (2 * i + (j + 1)) < K xs (lowAt xs m i j) then 2 * i + (j + 1) else lowAt xs m i j

theorem lowAt_lt (xs : Its) (m i j : Nat) (hi : i < m) : lowAt xs m i j < m := by
  induction j with
  | zero => exact hi
  | succ j ih => unfold lowAt; split <;> omega

theorem lowAt_form (xs : Its) (m i : Nat) : lowAt xs m i 2 = i ∨ lowAt xs m i 2 = 2 * i + 1 ∨ lowAt xs m i 2 = 2 * i + 2 := by
  have e : lowAt xs m i 2 = if 2 * i + 2 < m ∧ K xs (2 * i + 2) < K xs (lowAt xs m i 1) then 2 * i + 2 else lowAt xs m i 1 := rfl
  have e1 : lowAt xs m i 1 = if 2 * i + 1 < m ∧ K xs (2 * i + 1) < K xs i then 2 * i + 1 else i := rfl
  rw [e]
  split
  · exact .inr (.inr rfl)
  · rw [e1]
    split
    · exact .inr (.inl rfl)
    · exact .inl rfl

theorem lowAt_le (xs : Its) (m i : Nat) : K xs (lowAt xs m i 2) ≤ K xs i ∧ (2 * i + 1 < m → K xs (lowAt xs m i 2) ≤ K xs (2 * i + 1)) ∧ (2 * i + 2 < m → K xs (lowAt xs m i 2) ≤ K xs (2 * i + 2)) := by
  have h1 : K xs (lowAt xs m i 1) ≤ K xs i ∧ (2 * i + 1 < m → K xs (lowAt xs m i 1) ≤ K xs (2 * i + 1)) := by
    simp only [lowAt, Nat.zero_add]
    by_cases h : 2 * i + 1 < m ∧ K xs (2 * i + 1) < K xs i
    · rw [if_pos h]; exact ⟨by omega, fun _ => Int.le_refl _⟩
    · rw [if_neg h]; exact ⟨Int.le_refl _, fun h' => by omega⟩
  have e : lowAt xs m i 2 = if 2 * i + 2 < m ∧ K xs (2 * i + 2) < K xs (lowAt xs m i 1) then 2 * i + 2 else lowAt xs m i 1 := rfl
  rw [e]
  generalize lowAt xs m i 1 = l at h1
  by_cases h : 2 * i + 2 < m ∧ K xs (2 * i + 2) < K xs l
  · rw [if_pos h]; refine ⟨by omega, fun h' => ?_, fun _ => Int.le_refl _⟩; have := h1.2 h'; omega
  · rw [if_neg h]; exact ⟨h1.1, h1.2, fun h' => by omega⟩

theorem pop_stop (xs : Its) (i : Nat) (h : HeapDown xs i) (hl : lowAt xs xs.length i 2 = i) : IsHeap xs := by
  have := lowAt_le xs xs.length i
  rw [hl] at this
  intro j h0 hj
  by_cases e : (j - 1) / 2 = i
  · rw [e]
    rcases (show j = 2 * i + 1 ∨ j = 2 * i + 2 by omega) with rfl | rfl
    · exact this.2.1 hj
    · exact this.2.2 hj
  · exact h.1 j h0 hj e

theorem pop_step (xs : Its) (i l : Nat) (h : HeapDown xs i) (hi : i < xs.length) (hl : lowAt xs xs.length i 2 = l) (hne : l ≠ i) : HeapDown (swapL xs i l) l := by
  have hle := lowAt_le xs xs.length i
  have hlt := lowAt_lt xs xs.length i 2 hi
  have hf := lowAt_form xs xs.length i
  rw [hl] at hle hlt hf
  have hp : (l - 1) / 2 = i := by omega
  have hl0 : 0 < l := by omega
  refine ⟨fun j h0 hj he => ?_, fun j h0 hj he _ => ?_⟩
  · rw [swapL_length] at hj
    rw [K_swap _ _ _ _ hi hlt, K_swap _ _ _ _ hi hlt]
    by_cases e1 : (j - 1) / 2 = i
    · rw [if_pos e1, if_neg (by omega)]
      by_cases e2 : j = l
      · rw [if_pos e2]; omega
      · rw [if_neg e2]
        rcases (show j = 2 * i + 1 ∨ j = 2 * i + 2 by omega) with rfl | rfl
        · exact hle.2.1 hj
        · exact hle.2.2 hj
    · rw [if_neg e1, if_neg he]
      by_cases e2 : j = i
      · rw [if_pos e2]
        subst e2
        exact h.2 l hl0 hlt hp h0
      · rw [if_neg e2, if_neg (by omega)]
        exact h.1 j h0 hj e1
  · rw [swapL_length] at hj
    rw [K_swap _ _ _ _ hi hlt, K_swap _ _ _ _ hi hlt, if_pos hp, if_neg (by omega), if_neg (by omega)]
    have := h.1 j h0 hj (by omega)
    rw [he] at this
    exact this

/-- The root taken out: the last is laid in its place. -/
def popped (xs : Its) (m : Nat) : Its := (xs.set 0 (xs.getD m (0, 0))).take m

theorem popped_length (y : Int × Nat) (ys : Its) (m : Nat) (hm : ys.length = m) : (popped (y :: ys) m).length = m := by simp [popped, hm]

theorem popped_perm (y : Int × Nat) (ys : Its) (m : Nat) (hm : ys.length = m) : (popped (y :: ys) m).Perm ys := by
  subst hm
  rcases List.eq_nil_or_concat ys with rfl | ⟨zs, z, rfl⟩
  · simp [popped]
  · rw [List.concat_eq_append]
    have e : ((y :: (zs ++ [z])).getD (zs ++ [z]).length (0, 0)) = z := by
      simp [List.getD_eq_getElem?_getD]
    unfold popped
    rw [e, List.set_cons_zero, List.length_append, List.length_singleton, List.take_succ_cons, List.take_append_of_le_length (Nat.le_refl _), List.take_length]
    exact (List.perm_append_comm (l₁ := [z]) (l₂ := zs))

theorem popped_down (xs : Its) (m : Nat) (hm : xs.length = m + 1) (h : IsHeap xs) : HeapDown (popped xs m) 0 := by
  have hlen : (popped xs m).length = m := by simp [popped, hm]
  have hk : ∀ j, 0 < j → j < m → K (popped xs m) j = K xs j := by
    intro j h0 hj
    unfold K popped
    rw [List.getD_eq_getElem?_getD, List.getElem?_take, if_pos hj, List.getElem?_set, if_neg (by omega), ← List.getD_eq_getElem?_getD]
  refine ⟨fun j h0 hj he => ?_, fun j h0 hj he h00 => by omega⟩
  rw [hlen] at hj
  rw [hk j h0 hj, hk _ (by omega) (by omega)]
  exact h j h0 (by omega)

end Go.Proofs.Ybulkdeew
