/-
  OWN WORK. (*queue).pop at every queue that holds something.
-/
import Derived.Test.YbulkdeewPop3
namespace Go.Proofs.Ybulkdeew
open Go.RowKit

theorem pop_any (qb : Nat) (rv hv : Value) (run hp : Its) (w : World) (hq : QSt w qb rv hv run hp) (ha : Asc run) (hh : IsHeap hp) (hne : 0 < run.length + hp.length) (hbig : run.length + hp.length ≤ 100000) :
    Calls Yba.prog 10 #[.pointer (some ⟨qb, 0, none⟩)] w fun e w' => e = .returned (.pointer (some ⟨(low run hp).2, 0, none⟩)) ∧ ∃ rv' hv' run' hp', QSt w' qb rv' hv' run' hp' ∧
      Asc run' ∧ IsHeap hp' ∧ (low run hp :: (run' ++ hp')).Perm (run ++ hp) ∧ Ch (fun x => x = qb ∨ rv.ownBlock = some x ∨ hv.ownBlock = some x) w w' := by
  cases hin : inRunB run hp with
  | true =>
    match run, hin, hq, ha, hne, hbig with
    | [], hin, _, _, hne, _ =>
      match hp, hin, hne with
      | [], _, hne => simp at hne
      | y :: ys, hin, _ => simp [inRunB] at hin
    | x :: xs, hin, hq, ha, hne, hbig =>
      have e : low (x :: xs) hp = x := by simp [low, hin]
      rw [e]
      refine (pop_run qb rv hv x xs hp w hq hin (by simp at hbig; omega)).mono ?_
      rintro e w' ⟨rfl, rv', h1, h2⟩
      exact ⟨rfl, rv', hv, xs, hp, h1, (List.pairwise_cons.1 ha).2, hh, List.Perm.refl _, h2.mono fun z _ h => by rcases h with h | h; exact .inl h; exact .inr (.inl h)⟩
  | false =>
    match hp, hin, hq, hh, hne, hbig with
    | [], hin, _, _, _, _ => cases run <;> simp [inRunB] at hin
    | y :: ys, hin, hq, hh, hne, hbig =>
      have e : low run (y :: ys) = y := by simp [low, hin]
      rw [e]
      cases hyl : ys.length with
      | zero =>
        obtain rfl : ys = [] := List.eq_nil_of_length_eq_zero hyl
        refine (pop_heap1 qb rv hv run y w hq hin).mono ?_
        rintro e w' ⟨rfl, hv', h1, h2⟩
        refine ⟨rfl, rv, hv', run, [], h1, ha, by intro j _ h; simp at h, ?_, h2.mono fun z _ h => by rcases h with h | h; exact .inl h; exact .inr (.inr h)⟩
        rw [List.append_nil]
        exact (List.perm_append_comm (l₁ := [y]) (l₂ := run))
      | succ k =>
        refine (pop_heap qb rv hv run y ys w hq hin k hyl (by simp at hbig; omega) hh).mono ?_
        rintro e w' ⟨rfl, hv', hp', h1, h3, h4, h2⟩
        refine ⟨rfl, rv, hv', run, hp', h1, ha, h4, ?_, h2.mono fun z _ h => by rcases h with h | h; exact .inl h; exact .inr (.inr h)⟩
        exact (List.perm_middle.symm).trans (List.Perm.append_left run (h3.cons y))

end Go.Proofs.Ybulkdeew
