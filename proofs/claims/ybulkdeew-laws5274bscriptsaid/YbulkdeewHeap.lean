/-
  OWN WORK. The plain mathematics of the heap: lists of (key, held's block).
-/
import GoSem.Core.World
namespace Go.Proofs.Ybulkdeew

abbrev Its := List (Int × Nat)
def K (xs : Its) (j : Nat) : Int := (xs.getD j (0, 0)).1
def swapL (xs : Its) (i j : Nat) : Its := (xs.set i (xs.getD j (0, 0))).set j (xs.getD i (0, 0))
def IsHeap (xs : Its) : Prop := ∀ j, 0 < j → j < xs.length → K xs ((j - 1) / 2) ≤ K xs j
def HeapBut (xs : Its) (i : Nat) : Prop := (∀ j, 0 < j → j < xs.length → j ≠ i → K xs ((j - 1) / 2) ≤ K xs j) ∧ ∀ j, 0 < j → j < xs.length → (j - 1) / 2 = i → 0 < i → K xs ((i - 1) / 2) ≤ K xs j

theorem swapL_length (xs : Its) (i j : Nat) : (swapL xs i j).length = xs.length := by simp [swapL]

attribute [local simp] swapL_length
theorem getD_set (xs : Its) (i j : Nat) (x d : Int × Nat) (hi : i < xs.length) : (xs.set i x).getD j d = if i = j then x else xs.getD j d := by
  simp only [List.getD_eq_getElem?_getD, List.getElem?_set]
  by_cases h : i = j
  · subst h; simp [hi]
  · simp [h]

theorem K_swap (xs : Its) (i j k : Nat) (hi : i < xs.length) (hj : j < xs.length) : K (swapL xs i j) k = if k = i then K xs j else if k = j then K xs i else K xs k := by
  unfold K swapL
  rw [getD_set _ _ _ _ _ (by simpa using hj), getD_set _ _ _ _ _ hi]
  by_cases h1 : k = j
  · subst h1
    by_cases h2 : k = i
    · subst h2; simp
    · simp [h2]
  · by_cases h2 : k = i
    · subst h2; rw [if_neg (by omega), if_pos rfl, if_pos rfl]
    · rw [if_neg (by omega), if_neg (by omega), if_neg h2, if_neg h1]

theorem swapL_perm (xs : Its) (i j : Nat) (hi : i < xs.length) (hj : j < xs.length) : (swapL xs i j).Perm xs := by
  rw [List.perm_iff_count]
  intro a
  have e1 : xs.getD j (0, 0) = xs[j] := by simp [List.getD_eq_getElem?_getD, hj]
  have e2 : xs.getD i (0, 0) = xs[i] := by simp [List.getD_eq_getElem?_getD, hi]
  unfold swapL
  rw [e1, e2, List.count_set (by simpa using hj), List.count_set hi, List.getElem_set]
  have hp : ∀ (m : Nat) (hm : m < xs.length), xs[m] = a → 0 < xs.count a := fun m hm h => List.count_pos_iff.2 (by rw [← h]; exact List.getElem_mem hm)
  have hpi := hp i hi
  have hpj := hp j hj
  by_cases hij : i = j
  · subst hij
    simp only [if_true]
    by_cases h : xs[i] = a
    · have := hpi h; simp [h]; omega
    · simp [h]
  · simp only [hij, if_false]
    by_cases h1 : xs[i] = a <;> by_cases h2 : xs[j] = a
    · have := hpi h1; simp [h1, h2]; omega
    · have := hpi h1; simp [h1, h2]; omega
    · have := hpj h2; simp [h1, h2]
    · simp [h1, h2]

theorem K_append_left (xs ys : Its) (j : Nat) (h : j < xs.length) : K (xs ++ ys) j = K xs j := by
  simp [K, List.getD_eq_getElem?_getD, List.getElem?_append_left h]

theorem push_start (xs : Its) (x : Int × Nat) (h : IsHeap xs) : HeapBut (xs ++ [x]) xs.length := by
  refine ⟨fun j h0 hj hne => ?_, fun j h0 hj he _ => ?_⟩
  · simp at hj
    rw [K_append_left _ _ _ (by omega), K_append_left _ _ _ (by omega)]
    exact h j h0 (by omega)
  · simp at hj
    omega

theorem push_stop (xs : Its) (i : Nat) (h : HeapBut xs i) (hs : i = 0 ∨ K xs ((i - 1) / 2) ≤ K xs i) : IsHeap xs := by
  intro j h0 hj
  by_cases e : j = i
  · subst e
    rcases hs with h1 | h1
    · omega
    · exact h1
  · exact h.1 j h0 hj e

theorem push_step (xs : Its) (i : Nat) (h : HeapBut xs i) (h0 : 0 < i) (hi : i < xs.length) (hlt : K xs i < K xs ((i - 1) / 2)) : HeapBut (swapL xs ((i - 1) / 2) i) ((i - 1) / 2) := by
  have hu : (i - 1) / 2 < i := by omega
  refine ⟨fun j hj0 hj hne => ?_, fun j hj0 hj he hu0 => ?_⟩
  · rw [swapL_length] at hj
    rw [K_swap _ _ _ _ (by omega) hi, K_swap _ _ _ _ (by omega) hi, if_neg hne]
    by_cases e1 : j = i
    · rw [if_pos e1]
      subst e1
      rw [if_pos rfl]
      omega
    · rw [if_neg e1]
      by_cases e2 : (j - 1) / 2 = (i - 1) / 2
      · rw [if_pos e2]
        have := h.1 j hj0 hj e1
        rw [e2] at this
        omega
      · rw [if_neg e2]
        by_cases e3 : (j - 1) / 2 = i
        · rw [if_pos e3]
          exact h.2 j hj0 hj e3 h0
        · rw [if_neg e3]
          exact h.1 j hj0 hj e1
  · rw [swapL_length] at hj
    rw [K_swap _ _ _ _ (by omega) hi, K_swap _ _ _ _ (by omega) hi, if_neg (by omega), if_neg (by omega)]
    have hup := h.1 ((i - 1) / 2) hu0 (by omega) (by omega)
    by_cases e1 : j = (i - 1) / 2
    · omega
    · rw [if_neg e1]
      by_cases e2 : j = i
      · rw [if_pos e2]; exact hup
      · rw [if_neg e2]
        have := h.1 j hj0 hj e2
        rw [he] at this
        omega

theorem heap_min (xs : Its) (h : IsHeap xs) : ∀ j, j < xs.length → K xs 0 ≤ K xs j := by
  intro j
  induction j using Nat.strongRecOn with
  | _ j ih =>
    intro hj
    by_cases h0 : j = 0
    · subst h0; exact Int.le_refl _
    · exact Int.le_trans (ih ((j - 1) / 2) (by omega) (by omega)) (h j (by omega) hj)

end Go.Proofs.Ybulkdeew
