/-
  OWN WORK. (*queue).push at every queue.
-/
import Derived.Test.YbulkdeewPush
import Derived.Test.YbulkdeewLow
namespace Go.Proofs.Ybulkdeew
open Go.RowKit
attribute [local simp] icells_length swapL_length

theorem asc_snoc (run : Its) (m : Nat) (hm : run.length = m + 1) (l k : Int) (lh hb : Nat) (ha : Asc run) (hl : run[m]? = some (l, lh)) (hlk : l ≤ k) : Asc (run ++ [(k, hb)]) := by
  unfold Asc at ha ⊢
  rw [List.pairwise_append]
  refine ⟨ha, by simp, fun a hma b hmb => ?_⟩
  simp at hmb
  subst hmb
  obtain ⟨j, hj, rfl⟩ := List.getElem_of_mem hma
  have hlast : run[m]'(by omega) = (l, lh) := by
    have := hl
    rw [List.getElem?_eq_getElem (by omega)] at this
    exact Option.some.inj this
  by_cases hjm : j = m
  · subst hjm; rw [hlast]; exact hlk
  · have := List.pairwise_iff_getElem.1 ha j m hj (by omega) (by omega)
    rw [hlast] at this
    exact Int.le_trans this hlk

theorem push_any (qb : Nat) (rv hv : Value) (run hp : Its) (k : Int) (hb : Nat) (w : World) (hq : QSt w qb rv hv run hp) (ha : Asc run) (hh : IsHeap hp) (hbig : run.length + hp.length ≤ 100000) :
    Calls Yba.prog 5 #[.pointer (some ⟨qb, 0, none⟩), .int .u64 k, .pointer (some ⟨hb, 0, none⟩)] w fun e w' => e = .returned (.tuple #[]) ∧ ∃ rv' hv' run' hp', QSt w' qb rv' hv' run' hp' ∧
      Asc run' ∧ IsHeap hp' ∧ (run' ++ hp').Perm (run ++ hp ++ [(k, hb)]) ∧ Ch (fun x => x = qb ∨ rv.ownBlock = some x ∨ hv.ownBlock = some x) w w' := by
  cases hrl : run.length with
  | zero =>
    obtain rfl : run = [] := List.eq_nil_of_length_eq_zero hrl
    refine (push_empty qb rv hv hp k hb w hq).mono ?_
    rintro e w' ⟨rfl, rv', h1, h2⟩
    exact ⟨rfl, rv', hv, _, hp, h1, by simp [Asc], hh, by simpa using (List.perm_append_comm (l₁ := [(k, hb)]) (l₂ := hp)), h2.mono fun x _ h => by rcases h with h | h; exact .inl h; exact .inr (.inl h)⟩
  | succ m =>
    obtain ⟨⟨l, lh⟩, hl⟩ : ∃ x, run[m]? = some x := ⟨_, List.getElem?_eq_getElem (by omega)⟩
    by_cases hlk : l ≤ k
    · refine (push_run qb rv hv run hp m hrl k l lh hb w hq hl hlk (by omega)).mono ?_
      rintro e w' ⟨rfl, rv', h1, h2⟩
      refine ⟨rfl, rv', hv, _, hp, h1, asc_snoc run m hrl l k lh hb ha hl hlk, hh, ?_, h2.mono fun x _ h => by rcases h with h | h; exact .inl h; exact .inr (.inl h)⟩
      rw [List.append_assoc, List.append_assoc]
      exact List.Perm.append_left run List.perm_append_comm
    · refine (push_heap qb rv hv run hp m hrl k l lh hb w hq hl (by omega) (by omega) hp.length rfl (by omega) hh).mono ?_
      rintro e w' ⟨rfl, hv', hp', h1, h3, h4, h2⟩
      refine ⟨rfl, rv, hv', run, hp', h1, ha, h4, ?_, h2.mono fun x _ h => by rcases h with h | h; exact .inl h; exact .inr (.inr h)⟩
      rw [List.append_assoc]
      exact List.Perm.append_left run h3

end Go.Proofs.Ybulkdeew
