/-
  The proof of 'Rows.LawS5276CBuiltToldSaid': the row's step (after the seat b5276a's shells and the kit's PortLaid, PortTold, PortSeven), and the told and tied card.
-/
import Derived.Test.YbulkdefyFmtLaw
import Derived.Test.YbulkdefyFmtTie
import Derived.Test.YbulkdefyFmtCards
import Derived.ProofKit
import Derived.OpenShut
import Derived.ChangeOld
import Derived.Deep.DeepWitnessRowRef
import Derived.Lib.LaidIn
import Derived.Lib.LaidTab
import Derived.Stop.JoinedAt
import Derived.Stop.Texts
import Derived.Stop.JoinedTold
import Derived.SizedLaws
import Derived.Stop.LaidErr
import Derived.SevenTiedAt
namespace Go.Proofs.YbulkdefyFmt.lawS5276CBuilt
open Go.ChangeShapes Go.WideShapes Go.ChangeAt Go.RowKit Go.Kit Go.Lib
open Go.Extern.Stop Go.Stop Go.Extern

theorem own : ownKnob Ybaf.prog.godebug = none := by kernel_rfl
theorem laidOut : laidOutB Ybaf.prog = true := by kernel_rfl

/-- The two listed variables' cells laid; N: the first of the two new blocks. -/
def layIn (N : Nat) (w0 : World) : World :=
  let put (h : Array Obj) (g : Nat) (cs : Array Value) : Array Obj := h.modify g fun
    | .cells _ t frozen => .cells cs t frozen
    | o => o
  { w0 with heap := put (put w0.heap 0 (asciiSpaceTab.map (Value.int .u8)).toArray) 1 #[.pointer (some ⟨N + 1, 0, none⟩)] }

/-- The two new blocks. -/
def rowsIn (N : Nat) : Input := ⟨#[
    .cells #[.int .u16 9, .int .u16 13, .int .u16 1, .int .u16 32, .int .u16 133, .int .u16 101, .int .u16 160, .int .u16 5760, .int .u16 5600, .int .u16 8192, .int .u16 8202, .int .u16 1, .int .u16 8232, .int .u16 8233, .int .u16 1, .int .u16 8239, .int .u16 8287, .int .u16 48, .int .u16 12288, .int .u16 12288, .int .u16 1] 85,
    .cells #[.slice (some ⟨N, 0, none⟩) 7 7, .slice none 0 0, .int .i64 2] 82], #[], []⟩

set_option maxRecDepth 1000000 in
/-- A start in which the two listed variables hold what they are listed with. -/
theorem laid_met (os : Os) (args : Array Value) : laidMet Ybaf.prog Rows.lawS5276CBuiltRow.laid ((layIn (World.settled Ybaf.prog os).heap.size (World.holding Ybaf.prog os (rowsIn (World.settled Ybaf.prog os).heap.size))).forCall (fun _ _ => 0) ⟨#[], args, []⟩).memory :=
  (LaidIn.of_run [1, (World.settled Ybaf.prog default).heap.size + 1, (World.settled Ybaf.prog default).heap.size, 0] 10 (by kernel_rfl) (by kernel_rfl) (by kernel_rfl) (by kernel_rfl)).met

/-- The start's arguments. -/
def args0 : Array Value := #[.agg #[.int .u8 0, .int .u8 0, .int .u8 0, .int .u8 0, .int .u8 0, .int .u8 0, .int .u8 0, .int .u8 0], .int .u8 0, .int .u8 0, .slice none 0 0]

set_option maxRecDepth 1000000 in
theorem witness_row (os : Os) {H : Type} (enc : TypeId × Value → H) :
    (OpenSpec.ofChange Rows.lawS5276CBuiltSpec).preRow enc Ybaf.prog Ybaf.f3 Rows.lawS5276CBuiltRow.domain false Rows.lawS5276CBuiltRow.laid ((layIn (World.settled Ybaf.prog os).heap.size (World.holding Ybaf.prog os (rowsIn (World.settled Ybaf.prog os).heap.size))).forCall (fun _ _ => 0) ⟨#[], args0, []⟩).memory args0 := by
  have hw : (DataW.whole enc Ybaf.prog ((layIn (World.settled Ybaf.prog os).heap.size (World.holding Ybaf.prog os (rowsIn (World.settled Ybaf.prog os).heap.size))).forCall (fun _ _ => 0) ⟨#[], args0, []⟩).memory Ybaf.f3.params.toList (OpenSpec.ofChange Rows.lawS5276CBuiltSpec).vars false args0.toList 8).map (fun x => (x.1, x.2.1)) =
      some ([.agg [.lit (.int .u8 0), .lit (.int .u8 0), .lit (.int .u8 0), .lit (.int .u8 0), .lit (.int .u8 0), .lit (.int .u8 0), .lit (.int .u8 0), .lit (.int .u8 0)], .lit (.int .u8 0), .lit (.int .u8 0), .nil], []) := by kernel_rfl
  obtain ⟨⟨x1, x2, x3⟩, hx, hx1⟩ := Option.map_eq_some_iff.1 hw
  simp only [Prod.mk.injEq] at hx1
  obtain ⟨rfl, rfl⟩ := hx1
  exact OpenSpec.preRow_of_cond 8 hx (by kernel_rfl) (fun k hk => by cases hk) (by kernel_rfl) (laid_met os _)

theorem tabEq : (Rows.laid_strings_asciiSpace : DataW Unit) = tabData .u8 asciiSpaceTab := by kernel_rfl

def valInt : Value → Int
  | .int _ q => q
  | _ => 0

/-- The eight bytes of the head. -/
theorem open_head {H : Type} {enc : TypeId × Value → H} {W : World} {base : Nat} {v : Value} {d : DataW H} {ps : List MemPlace} (hval : Value.okWide Ybaf.prog W .any base 22 v) (h : DataW.Trod enc Ybaf.prog W 0 (fun _ => true) true 22 v d ps) :
    ∃ hs : List Int, v = .agg (hs.map (Value.int .u8)).toArray ∧ hs.length = 8 ∧ ∀ i, i < 8 → 0 ≤ hs.getD i 0 ∧ hs.getD i 0 ≤ 255 := by
  unfold Value.okWide at hval
  rw [Ybaf.underlying22] at hval
  obtain ⟨cs, rfl, hcs, _⟩ := hval
  have h22 : Ybaf.prog.cellsOf 22 = 8 := by kernel_rfl
  have h5 : Ybaf.prog.cellsOf 5 = 1 := by kernel_rfl
  obtain ⟨fuel, hf⟩ := h
  obtain ⟨xs, m, _, _, _, hxl, hx⟩ := DataW.trod_array Ybaf.underlying22 hf
  have hcell : ∀ i, i < 8 → ∃ z : Int, cs.toList[i]? = some (.int .u8 z) ∧ 0 ≤ z ∧ z ≤ 255 := by
    intro i hi
    have hxi := hx i hi
    rw [h5, Nat.mul_one, List.getElem?_eq_getElem (by omega)] at hxi
    obtain ⟨z, hz, _, hwf⟩ := DataW.trod_int Ybaf.underlying5 hxi
    refine ⟨z, ?_, ?_⟩
    · have h0 : ((cs.toList.drop i).take 1)[0]? = some (.int .u8 z) := by
        have hz' : (cs.toList.drop i).take 1 = [.int .u8 z] := hz
        rw [hz']; rfl
      simpa using h0
    · have := bounds_u8 hwf
      omega
  refine ⟨cs.toList.map valInt, ?_, by simp [hcs, h22], ?_⟩
  · congr 1
    apply Array.ext'
    rw [List.map_map]
    apply List.ext_getElem?
    intro i
    by_cases hi : i < 8
    · obtain ⟨z, hz, _⟩ := hcell i hi
      rw [hz]
      rw [List.getElem?_map, hz]
      rfl
    · rw [List.getElem?_eq_none (by simp [hcs, h22]; omega), List.getElem?_eq_none (by simp [hcs, h22]; omega)]
  · intro i hi
    obtain ⟨z, hz, hb⟩ := hcell i hi
    rw [List.getD_eq_getElem?_getD, List.getElem?_map, hz]
    exact hb

theorem walk (F : Interp) (hs : List Int) (hhs : hs.length = 8) (hhb : ∀ i, i < 8 → 0 ≤ hs.getD i 0 ∧ hs.getD i 0 ≤ 255) (a1 a2 : Int) (w1 : (Lit.int .u8 a1).wf = true) (w2 : (Lit.int .u8 a2).wf = true)
    (ao : Option Addr) (len cap : Nat) (zs : List Int) (W : World)
    (hrow : (ao = none ∧ len = 0) ∨ ∃ x, ao = some x ∧ len ≤ zs.length ∧ (∀ i, i < zs.length → W.cell? (x.add i) = some (.int .u32 (zs.getD i 0))) ∧ ∀ n ∈ zs, (Lit.int .u32 n).wf = true)
    (hF : F.answers W.tape) (htab : TabIs Ybaf.prog W "strings.asciiSpace" .u8 asciiSpaceTab) :
    Calls Ybaf.prog 3 #[.agg (hs.map (Value.int .u8)).toArray, .int .u8 a1, .int .u8 a2, .slice ao len cap] W fun e w' => e = .returned (.bool true) ∧ Below W.heap.size W w' := by
  by_cases hbig : 1024 < len
  · exact law_long _ _ _ ao len cap hbig W
  · have b1 := bounds_u8 w1
    have b2 := bounds_u8 w2
    obtain ⟨n1, rfl⟩ : ∃ n : Nat, a1 = (n : Int) := ⟨a1.toNat, by omega⟩
    obtain ⟨n2, rfl⟩ : ∃ n : Nat, a2 = (n : Int) := ⟨a2.toNat, by omega⟩
    by_cases h0 : len = 0
    · subst h0
      exact law_any F hs hhs hhb n1 n2 (by omega) (by omega) ao 0 0 0 cap [] (by omega) (fun h => by omega) W (fun i hi => by omega) (fun i hi => by omega) hF htab
    · rcases hrow with ⟨_, h⟩ | ⟨x, rfl, hl, hcell, hwf⟩
      · exact absurd h h0
      · obtain ⟨b, off, spot⟩ := x
        have hspot : spot = none := by simpa [Addr.add] using World.cell?_spot (hcell 0 (by omega))
        subst hspot
        refine law_any F hs hhs hhb n1 n2 (by omega) (by omega) _ b off len cap zs (by omega) (fun _ => rfl) W (fun i hi => by rw [← Addr.add_lit]; exact hcell i (by omega)) (fun i hi => ?_) hF htab
        have hm : zs.getD i 0 ∈ zs := by
          rw [List.getD_eq_getElem?_getD, List.getElem?_eq_getElem (show i < zs.length by omega)]
          exact List.getElem_mem _
        have := bounds_u32 (hwf _ hm)
        omega

set_option maxRecDepth 100000 in
theorem lifted (os : Os) (started : os.Started) (H : Type) (enc : TypeId × Value → H) :
    ReturnsInTold none {} Ybaf.checked os 3 .any Input.okWide ((OpenSpec.ofChange Rows.lawS5276CBuiltSpec).preRow enc Ybaf.prog Ybaf.f3 Rows.lawS5276CBuiltRow.domain false Rows.lawS5276CBuiltRow.laid)
      (fun F => ((OpenSpec.ofChange Rows.lawS5276CBuiltSpec).at F).post enc Ybaf.prog Ybaf.f3 false true false false) (aloneAtReturn Ybaf.prog) nothingAlways := by
  refine returnsInTold_of_row (C := Ybaf.checked) (s := OpenSpec.ofChange Rows.lawS5276CBuiltSpec) (by kernel_rfl) own started (by kernel_rfl) Ybaf.func3
    (OpenSpec.witness_stopped_atRef (enc := enc) (C := Ybaf.checked) false (layIn (World.settled Ybaf.prog os).heap.size (World.holding Ybaf.prog os (rowsIn (World.settled Ybaf.prog os).heap.size))) args0 rfl (by kernel_rfl) (by kernel_rfl) (by kernel_rfl) (witness_row os enc)) ?_
  intro F W base args ds gs before _ hF hval0 hW _ _ _ hL _
  have hval : ∀ (j : Nat) t v, Ybaf.f3.params[j]? = some t → args[j]? = some v → Value.okWide Ybaf.prog W .any base t v := hval0
  have hW' := hW
  obtain ⟨p, q, hA0, hV, rfl, hfz, hnd⟩ := hW
  have hA : DataW.TrodAll enc Ybaf.prog W 0 (fun _ => true) true Ybaf.f3.params.toList args.toList ds p := hA0
  rw [Ybaf.params3] at hA hval
  obtain ⟨v0, vs0, d0, ds0, p0, q0, hargs, rfl, rfl, h0, r0⟩ := trodAll_cons hA
  obtain ⟨v1, vs1, d1, ds1, p1, q1, rfl, rfl, rfl, h1, r1⟩ := trodAll_cons r0
  obtain ⟨v2, vs2, d2, ds2, p2, q2, rfl, rfl, rfl, h2, r2⟩ := trodAll_cons r1
  obtain ⟨v3, vs3, d3, ds3, p3, q3, rfl, rfl, rfl, h3, r3⟩ := trodAll_cons r2
  obtain ⟨rfl, rfl, rfl⟩ := trodAll_nil r3
  obtain rfl : args = #[v0, v1, v2, v3] := by cases args; simp_all
  obtain ⟨rfl, rfl⟩ := trodVars_none hV
  have k0 := h0
  have lt0 : ∀ x ∈ p0, x.block < W.heap.size := by obtain ⟨m, hm⟩ := k0; exact DataW.trod_lt m _ _ _ hm
  obtain ⟨hs, rfl, hhs, hhb⟩ := open_head (hval 0 22 v0 rfl rfl) h0
  obtain ⟨a1, rfl, rfl, rfl, w1⟩ := open_int Ybaf.underlying5 (hval 1 5 v1 rfl rfl) h1
  obtain ⟨a2, rfl, rfl, rfl, w2⟩ := open_int Ybaf.underlying5 (hval 2 5 v2 rfl rfl) h2
  obtain ⟨ao, len, cap, rfl⟩ := okWide_slice Ybaf.underlying23 (hval 3 23 v3 rfl rfl)
  have k3 := h3
  have lt3 : ∀ x ∈ p3, x.block < W.heap.size := by obtain ⟨m, hm⟩ := k3; exact DataW.trod_lt m _ _ _ hm
  obtain ⟨zs, hrow⟩ : ∃ zs : List Int, (ao = none ∧ len = 0) ∨ ∃ x, ao = some x ∧ len ≤ zs.length ∧ (∀ i, i < zs.length → W.cell? (x.add i) = some (.int .u32 (zs.getD i 0))) ∧ ∀ n ∈ zs, (Lit.int .u32 n).wf = true := by
    obtain ⟨fuel, hf⟩ := h3
    rcases open_ints Ybaf.underlying23 Ybaf.underlying29 (by kernel_rfl) hf with ⟨hcs, _⟩ | ⟨x, l, c, zs, hcs, _, hl, hm, hz, _, hcell, hwz⟩
    · simp [Value.cells] at hcs
      obtain ⟨rfl, rfl, rfl⟩ := hcs
      exact ⟨[], .inl ⟨rfl, rfl⟩⟩
    · simp [Value.cells] at hcs
      obtain ⟨rfl, rfl, rfl⟩ := hcs
      have hz' : zs.length = cap := by simpa using hz
      exact ⟨zs, .inr ⟨_, rfl, by omega, hcell, hwz⟩⟩
  clear hA0 hval0
  have hL' : laidMet Ybaf.prog [("unicode.White_Space", Rows.laid_unicode_White_Space), ("strings.asciiSpace", Rows.laid_strings_asciiSpace)] W := hL
  have hL2 := laidMet.tail hL'
  rw [tabEq] at hL2
  have htab := tabIs_of_head (g := 0) (t := 67) (e := 5) (n := 256) (by kernel_rfl) (by kernel_rfl) Ybaf.underlying67 Ybaf.underlying5 (by kernel_rfl) (by kernel_rfl) hL2
  refine (walk F.told hs hhs hhb a1 a2 w1 w2 ao len cap zs W hrow hF htab).mono fun e W' ⟨he, bel⟩ => ?_
  subst he
  exact ⟨_, rfl, _, _, _, [], _, [], hW', trodAll_mk1 (shut_bool Ybaf.underlying4 _), (trodAll_cons_mk (Below.trod laidOut (by kernel_rfl) (of_decide_eq_true (by kernel_rfl)) k0 bel lt0) (trodAll_cons_mk (shut_int Ybaf.underlying5 w1) (trodAll_cons_mk (shut_int Ybaf.underlying5 w2) (trodAll_cons_mk (Below.trod laidOut (by kernel_rfl) (of_decide_eq_true (by kernel_rfl)) k3 bel lt3) trodAll_mk0)))), rfl, bel.frame _, fun h => by cases h⟩

theorem laidOut7 : laidOutB Ybaf.pinned.checked.prog = true := by kernel_rfl
theorem stops : Ybaf.pinned.checked.prog.stops = ["fmt.Sprintf"] := by kernel_rfl
theorem stopKnobs : Ybaf.pinned.checked.prog.stopKnobs = [] := by kernel_rfl
theorem quiet (os : Os) : Stop.quiet Ybaf.pinned.checked.prog os := by
  intro k hk
  rw [stopKnobs] at hk
  cases hk

/-- ████ THE STATEMENT: the told and tied card ████ -/
theorem proved : Rows.LawS5276CBuiltToldSaid :=
  Claim7.holds_of_told_tied_any_at .later 3 Ybaf.f3 "fmt.Sprintf" [] [] _ _ _ _ _ (by kernel_rfl) rfl rfl rfl laidOut7 (by kernel_rfl) rfl ⟨rfl, rfl, rfl, rfl, rfl, rfl, rfl⟩ rfl rfl (by kernel_rfl) (by kernel_rfl) Ybaf.func3 (by kernel_rfl)
    (of_decide_eq_true (by kernel_rfl)) (of_decide_eq_true (by kernel_rfl)) stops.symm rfl stopKnobs.symm (by kernel_rfl)
    (by kernel_rfl) (by kernel_rfl) (by kernel_rfl) (by kernel_rfl) (by kernel_rfl) (by kernel_rfl) (by kernel_rfl) (by kernel_rfl) (by kernel_rfl) rfl (by kernel_rfl) rfl rfl
    rfl rfl
    rfl (by kernel_rfl) (by kernel_rfl) (by kernel_rfl) (by decide) (by kernel_rfl) lawS5276CBuilt_row_tie
    (OpenClaim.moreEntering_of (by kernel_rfl) (by kernel_rfl) (by kernel_rfl) (by kernel_rfl) (by kernel_rfl) (by kernel_rfl) (by kernel_rfl) (by kernel_rfl) (by kernel_rfl) (by kernel_rfl))
    ⟨_, WideRow.started_initial, quiet _⟩
    (fun os started _ H enc _ => lifted os started H enc)
#print axioms proved
end Go.Proofs.YbulkdefyFmt.lawS5276CBuilt
