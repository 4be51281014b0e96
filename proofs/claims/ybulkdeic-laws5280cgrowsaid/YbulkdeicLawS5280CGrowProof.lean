/-
  The proof of 'Rows.LawS5280CGrowSaid' (frame after the seats' shells).
-/
import Derived.Test.YbulkdeicLaw
import Derived.WalkKit
import Derived.ProofKit
import Derived.OpenShut
import Derived.ChangeOld
import Derived.Below
import Derived.Deep.SlicePairs
namespace Go.Proofs.Ybulkdeic.lawS5280CGrow
open Go.ChangeShapes Go.WideShapes Go.ChangeAt Go.RowKit
set_option linter.unusedVariables false

theorem own : ownKnob Yba.prog.godebug = none := by kernel_rfl
theorem laidOut : laidOutB Yba.prog = true := by kernel_rfl

/-- A slice of pairs that came in: nil, or a row of cells, two an element. -/
def IsRow (w : World) (a : Option Addr) (len : Nat) (f : Nat → Int) : Prop :=
  (a = none ∧ len = 0) ∨ ∃ x, a = some x ∧ ∀ i, i < len * 2 → w.cell? (x.add i) = some (.int .i32 (f i))

theorem walk (a0 : Option Addr) (len cap : Nat) (f : Nat → Int) (a1 a2 a3 a4 : Int) (w : World) (w0 : IsRow w a0 len f) (w1 : (Lit.int .u8 a1).wf = true) :
    Calls Yba.prog 3 #[.slice a0 len cap, .int .u8 a1, .int .i64 a2, .int .i64 a3, .int .i64 a4] w fun e w' => e = .returned (.bool true) ∧ Below w.heap.size w w' := by
  by_cases hbig : 1024 < len
  · exact law_long a0 len cap hbig _ _ _ _ w
  · by_cases hin : -1024 ≤ a2 ∧ a2 ≤ 1024 ∧ -4096 ≤ a3 ∧ a3 ≤ 4096 ∧ -65536 ≤ a4 ∧ a4 ≤ 65536
    · have b1 := bounds_u8 w1
      obtain ⟨n1, rfl⟩ : ∃ n : Nat, a1 = (n : Int) := ⟨a1.toNat, by omega⟩
      obtain ⟨g1, g2, g3, g4, g5, g6⟩ := hin
      by_cases h0 : len = 0
      · subst h0
        exact law_in a0 0 0 0 cap n1 a2 a3 a4 _ [] w (by omega) g1 g2 g3 g4 g5 g6 rfl (fun h => by omega) rfl (fun i hi => by omega)
      · rcases w0 with ⟨_, h⟩ | ⟨x, rfl, hcell⟩
        · exact absurd h h0
        · obtain ⟨b, off, spot⟩ := x
          have hspot : spot = none := by simpa [Addr.add] using World.cell?_spot (hcell 0 (by omega))
          subst hspot
          refine law_in _ b off len cap n1 a2 a3 a4 _ ((List.range (len * 2)).map f) w (by omega) g1 g2 g3 g4 g5 g6 rfl (fun _ => rfl) (by simp) (fun i hi => ?_)
          have := hcell i hi
          rw [Addr.add_lit] at this
          rw [this]
          simp [List.getD_eq_getElem?_getD, hi]
    · exact law_out a0 len cap (by omega) _ a2 a3 a4 hin w

/-- The pairs that came in. -/
theorem open_pairs {H : Type} {enc : TypeId × Value → H} {W : World} {a0 : Option Addr} {len cap : Nat} {d : DataW H} {ps : List MemPlace} (h : DataW.Trod enc Yba.prog W 0 (fun _ => true) true 22 (.slice a0 len cap) d ps) :
    ∃ f, IsRow W a0 len f := by
  have c37 : Yba.prog.cellsOf 37 = 2 := by kernel_rfl
  have c21 : Yba.prog.cellsOf 21 = 1 := by kernel_rfl
  obtain ⟨fuel, hf⟩ := h
  rcases Go.Deep.open_slice Yba.underlying22 hf with ⟨hcs, _⟩ | ⟨x, l, c, m, n, D, Pl, hcs, _, hl, hm, hmm, _, hx⟩
  · simp [Value.cells] at hcs
    obtain ⟨rfl, rfl, rfl⟩ := hcs
    exact ⟨fun _ => 0, .inl ⟨rfl, rfl⟩⟩
  · simp [Value.cells] at hcs
    obtain ⟨rfl, rfl, rfl⟩ := hcs
    have hlm : len ≤ m := by rw [hmm]; split <;> omega
    have each : ∀ i, i < len → (∃ z0, W.cell? (x.add (i * 2)) = some (.int .i32 z0)) ∧ ∃ z1, W.cell? (x.add (i * 2 + 1)) = some (.int .i32 z1) := by
      intro i hi
      obtain ⟨cs', h1, h2⟩ := hx i (by omega)
      rw [c37] at h1
      obtain ⟨_, hlen, hcell⟩ := World.cells?_some h1
      obtain ⟨xs, k, hk, _, _, hxl, hg⟩ := DataW.trod_array Yba.underlying37 h2
      have g0 := hg 0 (by omega)
      have g1 := hg 1 (by omega)
      rw [c21, List.getElem?_eq_getElem (by omega)] at g0 g1
      obtain ⟨z0, e0, _, _⟩ := DataW.trod_int Yba.underlying21 g0
      obtain ⟨z1, e1, _, _⟩ := DataW.trod_int Yba.underlying21 g1
      match cs', hlen with
      | [v0, v1], _ =>
        have r0 := hcell 0 (by omega)
        have r1 := hcell 1 (by omega)
        rw [Go.Deep.add_add] at r0 r1
        simp at e0 e1
        subst e0 e1
        exact ⟨⟨z0, by simpa using r0⟩, ⟨z1, by simpa using r1⟩⟩
    refine ⟨fun j => match W.cell? (x.add j) with | some (.int _ z) => z | _ => 0, .inr ⟨x, rfl, fun j hj => ?_⟩⟩
    obtain ⟨⟨z0, h0⟩, ⟨z1, h1⟩⟩ := each (j / 2) (by omega)
    by_cases hpar : j % 2 = 0
    · have e : j / 2 * 2 = j := by omega
      rw [e] at h0
      simp only [h0]
    · have e : j / 2 * 2 + 1 = j := by omega
      rw [e] at h1
      simp only [h1]

set_option maxRecDepth 100000 in
theorem lifted (os : Os) (started : os.Started) (H : Type) (enc : TypeId × Value → H) :
    ReturnsInHanded {} Yba.checked os 3 .any (Rows.lawS5280CGrowSpec.pre6 enc Yba.prog Yba.f3 Rows.lawS5280CGrowRow.domain false) (Rows.lawS5280CGrowSpec.post enc Yba.prog Yba.f3 false true false false) := by
  refine returnsInHanded_of_change (C := Yba.checked) own started (by kernel_rfl) Yba.func3
    (ChangeSpec.witness6 (enc := enc) (C := Yba.checked) false ⟨#[], #[.slice none 0 0, .int .u8 0, .int .i64 0, .int .i64 0, .int .i64 0], []⟩ 8 (by kernel_rfl) (by kernel_rfl) (by kernel_rfl) (by kernel_rfl)) ?_
  intro W base args ds gs before hval0 hW hcnd _
  have hval : ∀ (j : Nat) t v, Yba.f3.params[j]? = some t → args[j]? = some v → Value.okWide Yba.prog W .any base t v := hval0
  have hW' := hW
  obtain ⟨p, q, hA0, hV, rfl, hfz, hnd⟩ := hW
  have hA : DataW.TrodAll enc Yba.prog W 0 (fun _ => true) true Yba.f3.params.toList args.toList ds p := hA0
  rw [Yba.params3] at hA hval
  obtain ⟨v0, vs0, d0, ds0, p0, q0, hargs, rfl, rfl, h0, r0⟩ := trodAll_cons hA
  obtain ⟨v1, vs1, d1, ds1, p1, q1, rfl, rfl, rfl, h1, r1⟩ := trodAll_cons r0
  obtain ⟨v2, vs2, d2, ds2, p2, q2, rfl, rfl, rfl, h2, r2⟩ := trodAll_cons r1
  obtain ⟨v3, vs3, d3, ds3, p3, q3, rfl, rfl, rfl, h3, r3⟩ := trodAll_cons r2
  obtain ⟨v4, vs4, d4, ds4, p4, q4, rfl, rfl, rfl, h4, r4⟩ := trodAll_cons r3
  obtain ⟨rfl, rfl, rfl⟩ := trodAll_nil r4
  obtain rfl : args = #[v0, v1, v2, v3, v4] := by cases args; simp_all
  obtain ⟨rfl, rfl⟩ := trodVars_none hV
  obtain ⟨a0, len0, cap0, rfl⟩ := okWide_slice Yba.underlying22 (hval 0 22 v0 rfl rfl)
  have k0 := h0
  have lt0 : ∀ x ∈ p0, x.block < W.heap.size := by obtain ⟨m, hm⟩ := k0; exact DataW.trod_lt m _ _ _ hm
  obtain ⟨f, w0⟩ := open_pairs h0
  obtain ⟨a1, rfl, rfl, rfl, w1⟩ := open_int Yba.underlying5 (hval 1 5 v1 rfl rfl) h1
  obtain ⟨a2, rfl, rfl, rfl, w2⟩ := open_int Yba.underlying3 (hval 2 3 v2 rfl rfl) h2
  obtain ⟨a3, rfl, rfl, rfl, w3⟩ := open_int Yba.underlying3 (hval 3 3 v3 rfl rfl) h3
  obtain ⟨a4, rfl, rfl, rfl, w4⟩ := open_int Yba.underlying3 (hval 4 3 v4 rfl rfl) h4
  clear hA0 hval0
  refine (walk a0 len0 cap0 f a1 a2 a3 a4 W w0 w1).mono fun e W' ⟨he, bel⟩ => ?_
  subst he
  exact ⟨_, rfl, _, _, _, [], _, [], hW', trodAll_mk1 (shut_bool Yba.underlying4 _), (trodAll_cons_mk (Below.trod laidOut (by kernel_rfl) (of_decide_eq_true (by kernel_rfl)) k0 bel lt0) (trodAll_cons_mk (shut_int Yba.underlying5 w1) (trodAll_cons_mk (shut_int Yba.underlying3 w2) (trodAll_cons_mk (shut_int Yba.underlying3 w3) (trodAll_cons_mk (shut_int Yba.underlying3 w4) trodAll_mk0))))), rfl, bel.frame _, fun h => by cases h⟩

theorem over : Rows.lawS5280CGrowRow.holds Yba.pinned (OpenSpec.ofChange Rows.lawS5280CGrowSpec) :=
  OpenClaim.holds_of_wide 3 Yba.f3 rfl rfl rfl rfl rfl rfl rfl ⟨rfl, rfl, rfl, rfl, rfl⟩ rfl rfl rfl rfl rfl (by kernel_rfl) Yba.func3 (by kernel_rfl)
    (of_decide_eq_true (by kernel_rfl)) (by unfold Func.isWrapper; first | (rw [if_pos (by decide +kernel)]; kernel_rfl) | (rw [if_neg (by decide +kernel)]; exact ⟨rfl, rfl⟩))
    (fun os started H enc _ => lifted os started H enc)

/-- ████ THE STATEMENT ████ -/
theorem proved : Rows.LawS5280CGrowSaid := over
#print axioms proved
end Go.Proofs.Ybulkdeic.lawS5280CGrow
