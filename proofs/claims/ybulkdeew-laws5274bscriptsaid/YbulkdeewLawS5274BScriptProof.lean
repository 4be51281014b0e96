/-
  The proof of 'Rows.LawS5274BScriptSaid': the seat's shell (made by program), its hole filled.
-/
import Derived.Test.YbulkdeewRows
import Derived.WalkKit
import Derived.ProofKit
import Derived.OpenShut
import Derived.ShutString
import Derived.ChangeOld
import Derived.Below
import Derived.Test.YbulkdeewScript
import Derived.Deep.SlicePairs
namespace Go.Proofs.Ybulkdeew.lawS5274BScript
open Go.ChangeShapes Go.WideShapes Go.ChangeAt Go.RowKit
open Go.ChangeMaps (open_string shut_string)
set_option linter.unusedVariables false

theorem own : ownKnob Yba.prog.godebug = none := by kernel_rfl
theorem laidOut : laidOutB Yba.prog = true := by kernel_rfl

/-- What the walk is told of a slice of steps that came in: it is nil; or it leads to a row of cells, two an element. -/
def IsRow (w : World) (a : Option Addr) (len cap : Nat) (fo fk : Nat → Int) : Prop :=
  (a = none ∧ len = 0 ∧ cap = 0) ∨
  ∃ x, a = some x ∧ len ≤ cap ∧ ∀ i, i < len → w.cell? (x.add (i * 2)) = some (.int .u8 (fo i)) ∧ w.cell? (x.add (i * 2 + 1)) = some (.int .u64 (fk i)) ∧ (Lit.int .u8 (fo i)).wf = true

theorem walk (a0 : Option Addr) (len0 cap0 : Nat) (fo fk : Nat → Int) (w : World) (w0 : IsRow w a0 len0 cap0 fo fk) :
    Calls Yba.prog 4 #[.slice a0 len0 cap0] w fun e w' => e = .returned (.bool true) ∧ Below w.heap.size w w' := by
  by_cases hbig : 512 < len0
  · have t1 : (512 : Int) < (len0 : Int) := by omega
    go_enter Yba.func4, Yba.ntmps4
    go_wp2
    go_ret
    exact ⟨rfl, Below.refl _ _⟩
  · rcases w0 with ⟨rfl, rfl, rfl⟩ | ⟨x, rfl, hlc, hcell⟩
    · exact script_walk 0 0 0 0 none fo fk w (by omega) (fun h => by omega) (fun i hi => by omega) (fun i hi => by omega)
    · by_cases h0 : len0 = 0
      · subst h0
        exact script_walk 0 0 0 cap0 (some x) fo fk w (by omega) (fun h => by omega) (fun i hi => by omega) (fun i hi => by omega)
      · obtain ⟨b, off, spot⟩ := x
        have hspot : spot = none := by simpa [Addr.add] using World.cell?_spot (hcell 0 (by omega)).1
        subst hspot
        refine script_walk b off len0 cap0 _ fo fk w (by omega) (fun _ => rfl) (fun i hi => ?_) (fun i hi => ?_)
        · have := hcell i hi
          rw [Addr.add_lit, Addr.add_lit, ← Nat.add_assoc] at this
          exact ⟨this.1, this.2.1⟩
        · have := (hcell i hi).2.2
          have h2 := bounds_u8 this
          omega

/-! ### THE ROW's STEP: WRITTEN OUT: LEAVE IT -/
set_option maxRecDepth 100000 in
theorem lifted (os : Os) (started : os.Started) (H : Type) (enc : TypeId × Value → H) :
    ReturnsInHanded {} Yba.checked os 4 .any (Rows.lawS5274BScriptSpec.pre6 enc Yba.prog Yba.f4 Rows.lawS5274BScriptRow.domain false) (Rows.lawS5274BScriptSpec.post enc Yba.prog Yba.f4 false true false false) := by
  refine returnsInHanded_of_change (C := Yba.checked) own started (by kernel_rfl) Yba.func4
    (ChangeSpec.witness6 (enc := enc) (C := Yba.checked) false ⟨#[], #[.slice none 0 0], []⟩ 8 (by kernel_rfl) (by kernel_rfl) (by kernel_rfl) (by kernel_rfl)) ?_
  intro W base args ds gs before hval0 hW hcnd _
  have hval : ∀ (j : Nat) t v, Yba.f4.params[j]? = some t → args[j]? = some v → Value.okWide Yba.prog W .any base t v := hval0
  have hW' := hW
  obtain ⟨p, q, hA0, hV, rfl, hfz, hnd⟩ := hW
  have hA : DataW.TrodAll enc Yba.prog W 0 (fun _ => true) true Yba.f4.params.toList args.toList ds p := hA0
  rw [Yba.params4] at hA hval
  obtain ⟨v0, vs0, d0, ds0, p0, q0, hargs, rfl, rfl, h0, r0⟩ := trodAll_cons hA
  obtain ⟨rfl, rfl, rfl⟩ := trodAll_nil r0
  obtain rfl : args = #[v0] := by cases args; simp_all
  obtain ⟨rfl, rfl⟩ := trodVars_none hV
  obtain ⟨a0, len0, cap0, rfl⟩ := okWide_slice Yba.underlying43 (hval 0 43 v0 rfl rfl)
  have k0 := h0
  have lt0 : ∀ x ∈ p0, x.block < W.heap.size := by obtain ⟨m, hm⟩ := k0; exact DataW.trod_lt m _ _ _ hm
  obtain ⟨fo, fk, w0⟩ : ∃ fo fk, IsRow W a0 len0 cap0 fo fk := by
    obtain ⟨fuel, hf⟩ := h0
    rcases Go.Deep.open_slice_pairs Yba.underlying43 Yba.underlying46 (by kernel_rfl) rfl rfl (by kernel_rfl) (by kernel_rfl) hf with ⟨hcs, _⟩ | ⟨x, l, c, m, n, V0, V1, D0, D1, P0, P1, hcs, _, hl, hm, hmm, _, hx⟩
    · simp [Value.cells] at hcs
      obtain ⟨rfl, rfl, rfl⟩ := hcs
      exact ⟨fun _ => 0, fun _ => 0, .inl ⟨rfl, rfl, rfl⟩⟩
    · simp [Value.cells] at hcs
      obtain ⟨rfl, rfl, rfl⟩ := hcs
      have hlm : len0 ≤ m := by rw [hmm]; split <;> omega
      refine ⟨fun i => intOf (V0 i), fun i => intOf (V1 i), .inr ⟨x, rfl, hl, fun i hi => ?_⟩⟩
      obtain ⟨g1, g2, g3, g4⟩ := hx i (by omega)
      obtain ⟨z, e1, _, wz⟩ := DataW.trod_int Yba.underlying5 g3
      obtain ⟨z', e2, _, _⟩ := DataW.trod_int Yba.underlying27 g4
      simp at e1 e2
      show W.cell? (x.add (i * 2)) = some (Value.int .u8 (intOf (V0 i))) ∧ W.cell? (x.add (i * 2 + 1)) = some (Value.int .u64 (intOf (V1 i))) ∧ (Lit.int .u8 (intOf (V0 i))).wf = true
      rw [g1, g2, e1, e2]
      exact ⟨rfl, rfl, wz⟩
  clear hA0 hval0
  refine (walk a0 len0 cap0 fo fk W w0).mono fun e W' ⟨he, bel⟩ => ?_
  subst he
  exact ⟨_, rfl, _, _, _, [], _, [], hW', trodAll_mk1 (shut_bool Yba.underlying4 _), (trodAll_cons_mk (Below.trod laidOut (by kernel_rfl) (of_decide_eq_true (by kernel_rfl)) k0 bel lt0) trodAll_mk0), rfl, bel.frame _, fun h => by cases h⟩

theorem over : Rows.lawS5274BScriptRow.holds Yba.pinned (OpenSpec.ofChange Rows.lawS5274BScriptSpec) :=
  OpenClaim.holds_of_wide 4 Yba.f4 rfl rfl rfl rfl rfl rfl rfl ⟨rfl, rfl, rfl, rfl, rfl⟩ rfl rfl rfl rfl rfl (by kernel_rfl) Yba.func4 (by kernel_rfl)
    (of_decide_eq_true (by kernel_rfl)) (by unfold Func.isWrapper; first | (rw [if_pos (by decide +kernel)]; kernel_rfl) | (rw [if_neg (by decide +kernel)]; exact ⟨rfl, rfl⟩))
    (fun os started H enc _ => lifted os started H enc)

/-- ████ THE STATEMENT ████ -/
theorem proved : Rows.LawS5274BScriptSaid := over
#print axioms proved
end Go.Proofs.Ybulkdeew.lawS5274BScript
