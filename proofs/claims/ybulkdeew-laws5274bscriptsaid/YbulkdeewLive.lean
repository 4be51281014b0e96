/-
  OWN WORK. The plain mathematics of the script's model: which items are alive, and the scan for the least of them.
-/
import Derived.Test.YbulkdeewHeap
namespace Go.Proofs.Ybulkdeew

def liveI : List Int → List Bool → List Nat → Its
  | k :: ks, l :: ls, h :: hs => if l then (k, h) :: liveI ks ls hs else liveI ks ls hs
  | _, _, _ => []

theorem liveI_snoc : ∀ (ks : List Int) (ls : List Bool) (hs : List Nat) (k : Int) (h : Nat), ls.length = ks.length → hs.length = ks.length → liveI (ks ++ [k]) (ls ++ [true]) (hs ++ [h]) = liveI ks ls hs ++ [(k, h)]
  | [], ls, hs, k, h, h1, h2 => by
    obtain rfl := List.eq_nil_of_length_eq_zero h1
    obtain rfl := List.eq_nil_of_length_eq_zero h2
    rfl
  | k0 :: ks, l :: ls, h0 :: hs, k, h, h1, h2 => by
    have := liveI_snoc ks ls hs k h (by simpa using h1) (by simpa using h2)
    simp only [List.cons_append, liveI, this]
    cases l <;> rfl
  | _ :: _, [], _, _, _, h1, _ => by simp at h1
  | _ :: _, _ :: _, [], _, _, _, h2 => by simp at h2

theorem liveI_length : ∀ (ks : List Int) (ls : List Bool) (hs : List Nat), (liveI ks ls hs).length ≤ ks.length
  | [], _, _ => by simp [liveI]
  | _ :: _, [], _ => by simp [liveI]
  | _ :: _, _ :: _, [] => by simp [liveI]
  | k :: ks, l :: ls, h :: hs => by
    have := liveI_length ks ls hs
    cases l <;> simp [liveI] <;> omega

theorem liveI_mem : ∀ (ks : List Int) (ls : List Bool) (hs : List Nat) (x : Int × Nat), x ∈ liveI ks ls hs ↔ ∃ j : Nat, ls[j]? = some true ∧ ks[j]? = some x.1 ∧ hs[j]? = some x.2
  | [], ls, hs, x => by simp [liveI]
  | k :: ks, [], hs, x => by simp [liveI]
  | k :: ks, l :: ls, [], x => by simp [liveI]
  | k :: ks, l :: ls, h :: hs, x => by
    have ih := liveI_mem ks ls hs x
    have step : (∃ j : Nat, (l :: ls)[j]? = some true ∧ (k :: ks)[j]? = some x.1 ∧ (h :: hs)[j]? = some x.2) ↔ (l = true ∧ k = x.1 ∧ h = x.2) ∨ ∃ j : Nat, ls[j]? = some true ∧ ks[j]? = some x.1 ∧ hs[j]? = some x.2 := by
      constructor
      · rintro ⟨j, a, b, c⟩
        cases j with
        | zero => exact .inl ⟨by simpa using a, by simpa using b, by simpa using c⟩
        | succ j => exact .inr ⟨j, by simpa using a, by simpa using b, by simpa using c⟩
      · rintro (⟨a, b, c⟩ | ⟨j, a, b, c⟩)
        · exact ⟨0, by simp [a], by simp [b], by simp [c]⟩
        · exact ⟨j + 1, by simpa using a, by simpa using b, by simpa using c⟩
    rw [step, ← ih]
    cases l with
    | false => simp [liveI]
    | true =>
      simp only [liveI, if_true, List.mem_cons, true_and]
      constructor
      · rintro (rfl | h')
        · exact .inl ⟨rfl, rfl⟩
        · exact .inr h'
      · rintro (⟨rfl, rfl⟩ | h')
        · exact .inl rfl
        · exact .inr h'

theorem liveI_kill : ∀ (ks : List Int) (ls : List Bool) (hs : List Nat) (a : Nat) (k : Int) (h : Nat), ls[a]? = some true → ks[a]? = some k → hs[a]? = some h → (liveI ks ls hs).Perm ((k, h) :: liveI ks (ls.set a false) hs)
  | [], _, _, _, _, _, _, hk, _ => by simp at hk
  | _ :: _, [], _, _, _, _, hl, _, _ => by simp at hl
  | _ :: _, _ :: _, [], _, _, _, _, _, hh => by simp at hh
  | k0 :: ks, l0 :: ls, h0 :: hs, 0, k, h, hl, hk, hh => by
    simp at hl hk hh
    subst hl hk hh
    simp [liveI]
  | k0 :: ks, l0 :: ls, h0 :: hs, a + 1, k, h, hl, hk, hh => by
    have ih := liveI_kill ks ls hs a k h (by simpa using hl) (by simpa using hk) (by simpa using hh)
    simp only [List.set_cons_succ, liveI]
    cases l0 with
    | false => simpa using ih
    | true =>
      simp only [if_true]
      exact (ih.cons _).trans (List.Perm.swap _ _ _)

def scanTo (ks : List Int) (ls : List Bool) : Nat → Bool × Int
  | 0 => (false, 0)
  | i + 1 => if ls.getD i false && (!(scanTo ks ls i).1 || decide (ks.getD i 0 < (scanTo ks ls i).2)) then (true, ks.getD i 0) else scanTo ks ls i

theorem scan_some (ks : List Int) (ls : List Bool) : ∀ i, (scanTo ks ls i).1 = true → ∃ j, j < i ∧ ls.getD j false = true ∧ (scanTo ks ls i).2 = ks.getD j 0
  | 0, h => by simp [scanTo] at h
  | i + 1, h => by
    unfold scanTo at h ⊢
    by_cases c : (ls.getD i false && (!(scanTo ks ls i).1 || decide (ks.getD i 0 < (scanTo ks ls i).2))) = true
    · rw [if_pos c] at h ⊢
      exact ⟨i, by omega, by simp only [Bool.and_eq_true] at c; exact c.1, rfl⟩
    · rw [if_neg c] at h ⊢
      obtain ⟨j, h1, h2, h3⟩ := scan_some ks ls i h
      exact ⟨j, by omega, h2, h3⟩

theorem scan_least (ks : List Int) (ls : List Bool) : ∀ i j, j < i → ls.getD j false = true → (scanTo ks ls i).1 = true ∧ (scanTo ks ls i).2 ≤ ks.getD j 0
  | 0, j, hj, _ => by omega
  | i + 1, j, hj, hl => by
    unfold scanTo
    by_cases c : (ls.getD i false && (!(scanTo ks ls i).1 || decide (ks.getD i 0 < (scanTo ks ls i).2))) = true
    · rw [if_pos c]
      refine ⟨rfl, ?_⟩
      by_cases e : j = i
      · subst e; exact Int.le_refl _
      · have := scan_least ks ls i j (by omega) hl
        simp only [Bool.and_eq_true, Bool.or_eq_true, Bool.not_eq_true', decide_eq_true_eq] at c
        have c2 : ks.getD i 0 < (scanTo ks ls i).2 := by
          rcases c.2 with c2 | c2
          · rw [this.1] at c2; simp at c2
          · exact c2
        have h3 := this.2
        show ks.getD i 0 ≤ ks.getD j 0
        omega
    · rw [if_neg c]
      by_cases e : j = i
      · subst e
        rw [hl] at c
        simp only [Bool.true_and, Bool.or_eq_true, Bool.not_eq_true', decide_eq_true_eq, not_or] at c
        exact ⟨by simpa using c.1, by omega⟩
      · exact scan_least ks ls i j (by omega) hl

end Go.Proofs.Ybulkdeew
