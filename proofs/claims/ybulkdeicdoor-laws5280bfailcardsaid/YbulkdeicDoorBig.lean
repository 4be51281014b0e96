/-
  OWN WORK. zzs5280btoobig.
-/
import Derived.Test.YbulkdeicDoorMem
import Derived.Test.YbulkdeicDoorProg
import Derived.WalkKit
import Derived.Lib.Hide
import Derived.Deep.LoopGhost
namespace Go.Proofs.YbulkdeicDoor
open Go.RowKit

/-- The bytes of the texts, one after another. -/
def flat (l : List ByteArray) : List UInt8 := l.flatMap (fun s => s.data.toList)

theorem flat_append (a b : List ByteArray) : flat (a ++ b) = flat a ++ flat b := by
  unfold flat
  exact List.flatMap_append
theorem flat_one (s : ByteArray) : (flat [s]).length = s.size := by
  unfold flat
  simp only [List.flatMap_cons, List.flatMap_nil, List.append_nil, Array.length_toList]
  rfl

theorem take_succ_of {α : Type} {l : List α} {k : Nat} {x : α} (h : l[k]? = some x) : l.take (k + 1) = l.take k ++ [x] := by
  rw [List.take_add_one, h]
  rfl

/-- What is left behind the test: every text is short, all together are not too long. -/
def Small (ds : List ByteArray) (nr : Nat) : Prop := ds.length ≤ 1024 ∧ nr ≤ 1024 ∧ (∀ s ∈ ds, s.size ≤ 4096) ∧ (flat ds).length ≤ 1048576

/-- The test's answer. -/
def BigPost (ds : List ByteArray) (nr : Nat) (w : World) (e : Ending) (w' : World) : Prop := ∃ bo : Bool, e = .returned (.bool bo) ∧ w' = w ∧ (bo = false → Small ds nr)

set_option maxHeartbeats 2000000 in
set_option maxRecDepth 100000 in
theorem toobig (ao ar : Option Addr) (b off cap nr cr : Nat) (ds : List ByteArray) (w : World) (h0 : 0 < ds.length → ao = some ⟨b, off, none⟩) (hc : ∀ j s, ds[j]? = some s → w.cell? ⟨b, off + j, none⟩ = some (.string s)) :
    Calls Ybad.prog 5 #[.slice ao ds.length cap, .slice ar nr cr] w (BigPost ds nr w) := by
  by_cases h1 : 1024 < ds.length
  · clear hc h0
    go_enter Ybad.func5, Ybad.ntmps5
    go_wp2
    go_ret
    exact ⟨true, rfl, rfl, fun h => by cases h⟩
  · by_cases h2 : 1024 < nr
    · clear hc h0
      go_enter Ybad.func5, Ybad.ntmps5
      go_wp2
      go_ret
      exact ⟨true, rfl, rfl, fun h => by cases h⟩
    · have HC := Lib.hid hc
      clear hc
      obtain ⟨N, hN⟩ : ∃ N, ds.length = N := ⟨_, rfl⟩
      rw [hN] at h0 h1 ⊢
      go_enter Ybad.func5, Ybad.ntmps5
      go_wp2
      go_loopw [5, 7, 18] (fun s5 s7 s18 wr => ∃ k t : Nat, s5 = .int .i64 t ∧ s18 = .int .i64 k ∧ k ≤ N ∧ wr = w ∧ Hid (t = (flat (ds.take k)).length ∧ ∀ s ∈ ds.take k, s.size ≤ 4096) ∧ t ≤ 4096 * k) (fun _ _ s18 _ => (N - RowKit.intOf s18).toNat)
      case atStart => exact ⟨0, 0, rfl, rfl, by omega, rfl, ⟨by simp [flat], by simp⟩, by omega⟩
      case round =>
        obtain ⟨k, t, rfl, rfl, hk, rfl, HT, ht⟩ := hrel
        by_cases hlt : k < N
        · obtain ⟨s, hs⟩ : ∃ s, ds[k]? = some s := ⟨_, List.getElem?_eq_getElem (by omega)⟩
          have cs := HC.out k s hs
          obtain rfl := h0 (by omega)
          have HS := Lib.hid hs
          clear hs
          by_cases hbig : 4096 < s.size
          · go_wp2
            go_ret
            exact ⟨true, rfl, rfl, fun h => by cases h⟩
          · go_wp2
            go_roundw
            case rel =>
              refine ⟨k + 1, t + s.size, by simp, by simp, by omega, by trivial, ⟨?_, ?_⟩, by omega⟩
              · rw [take_succ_of HS.out, flat_append, List.length_append, flat_one, ← HT.out.1]
              · intro x hx
                rw [take_succ_of HS.out, List.mem_append] at hx
                rcases hx with hx | hx
                · exact HT.out.2 x hx
                · simp at hx
                  subst hx
                  omega
            case measure => simp [RowKit.intOf]; omega
        · obtain rfl : k = N := by omega
          have hall : ds.take k = ds := List.take_of_length_le (by omega)
          go_wp2
          go_ret
          refine ⟨_, rfl, rfl, fun h => ⟨by omega, by omega, ?_, ?_⟩⟩
          · have := HT.out.2
            rwa [hall] at this
          · have h3 := HT.out.1
            rw [hall] at h3
            simp at h
            omega
end Go.Proofs.YbulkdeicDoor
