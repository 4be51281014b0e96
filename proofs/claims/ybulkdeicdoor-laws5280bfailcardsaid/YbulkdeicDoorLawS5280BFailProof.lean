/-
  The proof of 'Rows.LawS5280BFailCardSaid': the row (frame after the kit's ToyasProofs), and the tied card (after ToyasCard).
-/
import Derived.Test.YbulkdeicDoorArg
import Derived.Test.YbulkdeicDoorTie
import Derived.Test.YbulkdeicDoorCards
import Derived.SevenTiedAt
namespace Go.Proofs.YbulkdeicDoor.lawS5280BFail
open Go.ChangeShapes Go.WideShapes Go.ChangeAt Go.RowKit
set_option linter.unusedVariables false

theorem noHandles : (Rows.lawS5280BFailRow.laid.filter fun x => x.2.handleName?.isSome) = [] := by kernel_rfl

theorem metH {W : World} : laidMetH Ybad.prog Rows.lawS5280BFailRow.laid W ↔ laidMet Ybad.prog Rows.lawS5280BFailRow.laid W := by
  unfold laidMetH
  rw [noHandles]

theorem walk (ao ar : Option Addr) (cap cr : Nat) (b off b2 off2 : Nat) (ds : List ByteArray) (rs : List (Nat × Int)) (w : World) (ha : Args w ao ar b off b2 off2 ds rs) (hL : laidMet Ybad.prog Rows.lawS5280BFailRow.laid w) :
    Calls Ybad.prog 4 #[.slice ao ds.length cap, .slice ar rs.length cr] w fun e w' => e = .returned (.bool true) ∧ Below w.heap.size w w' :=
  lawFail ao ar b off cap b2 off2 cr ds rs w ha (tab_of_laid hL)

set_option maxRecDepth 1000000 in
theorem lifted (os : Os) (started : os.Started) (H : Type) (enc : TypeId × Value → H) :
    ReturnsInHanded {} Ybad.checked os 4 .any (fun w args => (Rows.lawS5280BFailSpec.pre enc Ybad.prog Ybad.f4 [] false w args ∧ laidMetH Ybad.prog Rows.lawS5280BFailRow.laid w) ∧ sizedMet enc Ybad.prog Ybad.f4 (OpenSpec.ofChange Rows.lawS5280BFailSpec) false w args)
      (Rows.lawS5280BFailSpec.post enc Ybad.prog Ybad.f4 false true false false) := by
  refine returnsInHanded_of_change_and (C := Ybad.checked) (X := fun w _ => laidMetH Ybad.prog Rows.lawS5280BFailRow.laid w) (fun _ _ _ hh h => h.of_heap hh) own started (by kernel_rfl) Ybad.func4
    (ChangeSpec.witness_at (enc := enc) (C := Ybad.checked) (os := os) (X := fun w _ => laidMetH Ybad.prog Rows.lawS5280BFailRow.laid w) false (layIn (World.settled Ybad.prog os).heap.size (World.holding Ybad.prog os errIn)) #[.slice none 0 0, .slice none 0 0] 8 rfl (by kernel_rfl) (by kernel_rfl) (by kernel_rfl) (by kernel_rfl) (by kernel_rfl) (metH.2 (laid_met os _))) ?_
  intro W base args ds gs before hval0 hW _ _ hL _
  have hval : ∀ (j : Nat) t v, Ybad.f4.params[j]? = some t → args[j]? = some v → Value.okWide Ybad.prog W .any base t v := hval0
  have hW' := hW
  obtain ⟨p, q, hA0, hV, rfl, hfz, hnd⟩ := hW
  have hA : DataW.TrodAll enc Ybad.prog W 0 (fun _ => true) true Ybad.f4.params.toList args.toList ds p := hA0
  rw [Ybad.params4] at hA hval
  obtain ⟨v0, vs0, d0, ds0, p0, q0, hargs, rfl, rfl, h0, r0⟩ := trodAll_cons hA
  obtain ⟨v1, vs1, d1, ds1, p1, q1, rfl, rfl, rfl, h1, r1⟩ := trodAll_cons r0
  obtain ⟨rfl, rfl, rfl⟩ := trodAll_nil r1
  obtain rfl : args = #[v0, v1] := by cases args; simp_all
  obtain ⟨rfl, rfl⟩ := trodVars_none hV
  obtain ⟨a0, len0, cap0, rfl⟩ := okWide_slice Ybad.underlying22 (hval 0 22 v0 rfl rfl)
  obtain ⟨a1, len1, cap1, rfl⟩ := okWide_slice Ybad.underlying23 (hval 1 23 v1 rfl rfl)
  have k0 := h0
  have lt0 : ∀ x ∈ p0, x.block < W.heap.size := by obtain ⟨m, hm⟩ := k0; exact DataW.trod_lt m _ _ _ hm
  have k1 := h1
  have lt1 : ∀ x ∈ p1, x.block < W.heap.size := by obtain ⟨m, hm⟩ := k1; exact DataW.trod_lt m _ _ _ hm
  obtain ⟨docs, b, off, rfl, e1, e2⟩ := open_docs h0
  obtain ⟨recs, b2, off2, rfl, e3, e4⟩ := open_recs h1
  clear hA0 hval0
  refine (walk a0 a1 cap0 cap1 b off b2 off2 docs recs W ⟨e1, e2, e3, e4⟩ (metH.1 hL)).mono fun e W' ⟨he, bel⟩ => ?_
  subst he
  exact ⟨_, rfl, _, _, _, [], _, [], hW', trodAll_mk1 (shut_bool Ybad.underlying4 _), (trodAll_cons_mk (Below.trod laidOut (by kernel_rfl) (of_decide_eq_true (by kernel_rfl)) k0 bel lt0) (trodAll_cons_mk (Below.trod laidOut (by kernel_rfl) (of_decide_eq_true (by kernel_rfl)) k1 bel lt1) trodAll_mk0)), rfl, bel.frame _, fun h => by cases h⟩

theorem over : Rows.lawS5280BFailRow.holds Ybad.pinned (OpenSpec.ofChange Rows.lawS5280BFailSpec) :=
  OpenClaim.holds_of_wide 4 Ybad.f4 rfl rfl rfl rfl rfl rfl rfl ⟨rfl, rfl, rfl, rfl, rfl⟩ rfl rfl rfl rfl rfl (by kernel_rfl) Ybad.func4 (by kernel_rfl)
    (of_decide_eq_true (by kernel_rfl)) (by unfold Func.isWrapper; first | (rw [if_pos (by decide +kernel)]; kernel_rfl) | (rw [if_neg (by decide +kernel)]; exact ⟨rfl, rfl⟩))
    (fun os started H enc _ => lifted os started H enc)

/-- ████ THE STATEMENT: the tied card ████ -/
theorem proved : Rows.LawS5280BFailCardSaid :=
  Claim7.holds_tied_plain_at .later [] [.data, .data, .data, .sentinel] true (true, "34a223caa2d6eaf567bee7de9a990476a8a817f4be8fcca07c20c0d809468e50") true
    over (fun _ h => by cases h) (by kernel_rfl) (fun _ h => by cases h) lawS5280BFail_row_tie rfl ⟨rfl, rfl⟩ (by kernel_rfl) rfl
    (fun f fn hf hfn => by
      obtain rfl : f = 4 := Option.some.inj ((show Ybad.prog.funcNamed Rows.lawS5280BFailRow.func = some 4 by kernel_rfl).symm.trans hf) |>.symm
      obtain rfl : fn = Ybad.f4 := (Option.some.inj (Ybad.func4.symm.trans hfn)).symm
      exact ⟨by kernel_rfl, fun j t ht => by
        rw [Ybad.params4] at ht
        have h3 : t = 22 ∨ t = 23 := by
          rcases j with _ | _ | j
          · exact .inl (by simpa using ht.symm)
          · exact .inr (by simpa using ht.symm)
          · simp at ht
        rcases h3 with rfl | rfl
        · exact (show Ybad.prog.wantsStandIn 22 = false by kernel_rfl)
        · exact (show Ybad.prog.wantsStandIn 23 = false by kernel_rfl)⟩)
    (by kernel_rfl)
#print axioms proved
end Go.Proofs.YbulkdeicDoor.lawS5280BFail
