/-
  OWN WORK. strings.IndexFunc at the two closures, isDigits, isLetters.
-/
import Derived.Test.YbulkdefyFmtRows
import Derived.WalkKit
import Derived.ProofKit
import Derived.Below
import Derived.WalkSpells
import Derived.Laws.RangeAny
import Derived.WalkSmall
import Derived.Lib.Strings
namespace Go.Proofs.YbulkdefyFmt
open Go.RowKit

/-- The bytes of s from a on are digits. -/
def digAt (s : ByteArray) (j : Nat) : Prop := ∀ h : j < s.size, 48 ≤ (s[j]).toNat ∧ (s[j]).toNat ≤ 57
def allDig (s : ByteArray) : Prop := ∀ j, j < s.size → digAt s j

theorem clo_any (r : Int) (w : World) : Calls Ybaf.prog 31 #[.int .i32 r] w fun e w' => e = .returned (.bool (decide (r < 48 ∨ 57 < r))) ∧ w' = w := by
  by_cases h1 : r < 48
  · have e : decide (r < 48 ∨ 57 < r) = true := by simp [h1]
    rw [e]
    go_enter Ybaf.func31, Ybaf.ntmps31
    go_wp2
    go_ret
    exact ⟨rfl, rfl⟩
  · by_cases h2 : 57 < r
    · have e : decide (r < 48 ∨ 57 < r) = true := by simp [h2]
      rw [e]
      have h1' : decide (r < 48) = false := decide_eq_false h1
      go_enter Ybaf.func31, Ybaf.ntmps31
      go_wp2
      go_ret
      exact ⟨rfl, rfl⟩
    · have e : decide (r < 48 ∨ 57 < r) = false := by simp [h1, h2]
      rw [e]
      have h1' : decide (r < 48) = false := decide_eq_false h1
      have h2' : decide (57 < r) = false := decide_eq_false h2
      go_enter Ybaf.func31, Ybaf.ntmps31
      go_wp2
      go_ret
      exact ⟨rfl, rfl⟩

set_option maxHeartbeats 400000 in
theorem indexFunc_any (s : ByteArray) (w : World) :
    Calls Ybaf.prog 38 #[.string s, .func (.func 31) #[] #[], .bool true] w fun e w' => ∃ r : Int, e = .returned (.int .i64 r) ∧ (r < 0 ↔ allDig s) ∧ Below w.heap.size w w' := by
  go_enter Ybaf.func38, Ybaf.ntmps38
  go_wp2
  go_loopw [7, 8] (fun _ _ wr => ∃ pos : Nat, pos ≤ s.size ∧ wr = w.iter s pos ∧ Hid (∀ j, j < pos → digAt s j)) (fun _ _ wr => s.size - wr.iterPos w.heap.size)
  case atStart => exact ⟨0, Nat.zero_le _, rfl, fun j hj => by omega⟩
  case round =>
    obtain ⟨pos, hpos, rfl, HD⟩ := hrel
    have BI : Hid (∀ p, Below w.heap.size w (w.iter s p)) := fun p => (Below.refl _ _).alloc (Nat.le_refl _) _
    by_cases hlt : pos < s.size
    · have hnx := run_next_any (P := Ybaf.prog) w s pos 0 hlt
      by_cases hasc : (s[pos]'hlt).toNat < 128
      · rw [decode_ascii s pos hlt hasc] at hnx
        by_cases hd : 48 ≤ (s[pos]'hlt).toNat ∧ (s[pos]'hlt).toNat ≤ 57
        · have HD2 : Hid (∀ j, j < pos + 1 → digAt s j) := fun j hj => by
            by_cases e : j = pos
            · subst e; exact fun _ => hd
            · exact HD.out j (by omega)
          have ec : decide (((s[pos]'hlt).toNat : Int) < 48 ∨ 57 < ((s[pos]'hlt).toNat : Int)) = false := decide_eq_false (by omega)
          have EC : Hid (decide (((s[pos]'hlt).toNat : Int) < 48 ∨ 57 < ((s[pos]'hlt).toNat : Int)) = false) := ec
          clear ec hd
          go_wp2_with fail
          refine (clo_any _ _).mono ?_
          rintro e w' ⟨rfl, rfl⟩
          rw [EC.out]
          go_wp2
          go_roundw
          case rel => exact ⟨pos + 1, by omega, rfl, HD2.out⟩
          case measure => simp [World.iterPos_iter]; omega
        · have ec : decide (((s[pos]'hlt).toNat : Int) < 48 ∨ 57 < ((s[pos]'hlt).toNat : Int)) = true := decide_eq_true (by omega)
          have EC : Hid (decide (((s[pos]'hlt).toNat : Int) < 48 ∨ 57 < ((s[pos]'hlt).toNat : Int)) = true) := ec
          have ND : Hid (¬ allDig s) := fun h => hd (h pos hlt hlt)
          clear ec hd
          go_wp2_with fail
          refine (clo_any _ _).mono ?_
          rintro e w' ⟨rfl, rfl⟩
          rw [EC.out]
          go_wp2
          go_ret
          exact ⟨_, rfl, ⟨fun h => absurd h (by omega), fun h => absurd h ND.out⟩, BI.out _⟩
      · have hh := decode_high s pos hlt (by omega)
        have ND : Hid (¬ allDig s) := fun h => by have := h pos hlt hlt; omega
        generalize Utf8.decode s pos = dd at hnx hh
        obtain ⟨r, sz⟩ := dd
        simp only at hnx hh
        have EC : Hid (decide ((r : Int) < 48 ∨ 57 < (r : Int)) = true) := decide_eq_true (by omega)
        go_wp2_with fail
        refine (clo_any _ _).mono ?_
        rintro e w' ⟨rfl, rfl⟩
        rw [EC.out]
        go_wp2
        go_ret
        exact ⟨_, rfl, ⟨fun h => absurd h (by omega), fun h => absurd h ND.out⟩, BI.out _⟩
    · have hnx := run_next_end (P := Ybaf.prog) w s pos 0 hlt
      obtain rfl : pos = s.size := by omega
      have AD : Hid (allDig s) := HD.out
      go_wp2
      go_ret
      exact ⟨-1, rfl, ⟨fun _ => AD.out, fun _ => by omega⟩, BI.out _⟩

theorem indexFuncTop_any (s : ByteArray) (w : World) :
    Calls Ybaf.prog 29 #[.string s, .func (.func 31) #[] #[]] w fun e w' => ∃ r : Int, e = .returned (.int .i64 r) ∧ (r < 0 ↔ allDig s) ∧ Below w.heap.size w w' := by
  go_enter Ybaf.func29, Ybaf.ntmps29
  go_wp2_with fail
  refine (indexFunc_any s w).mono ?_
  rintro e w' ⟨r, rfl, h1, h2⟩
  have H : Hid ((r < 0 ↔ allDig s) ∧ Below w.heap.size w w') := ⟨h1, h2⟩
  clear h1 h2
  go_wp2
  go_ret
  exact ⟨r, rfl, H.out⟩

/-- One byte or more, all digits. -/
def isDigB (s : ByteArray) : Bool := !s.data.toList.isEmpty && s.data.toList.all fun c => decide (48 ≤ c.toNat) && decide (c.toNat ≤ 57)

theorem isDigB_iff (s : ByteArray) : isDigB s = true ↔ s.size ≠ 0 ∧ allDig s := by
  unfold isDigB allDig
  rw [Bool.and_eq_true, List.all_eq_true, Bool.not_eq_true', List.isEmpty_eq_false_iff]
  have e : s.data.toList ≠ [] ↔ s.size ≠ 0 := by
    constructor
    · intro h h2
      exact h (List.eq_nil_of_length_eq_zero (by rw [Array.length_toList]; exact h2))
    · intro h h2
      apply h
      have h3 : s.data.size = 0 := by rw [← Array.length_toList, h2]; rfl
      exact h3
  refine and_congr e ⟨fun h j hj hj' => ?_, fun h c hc => ?_⟩
  · have := h (s[j]) (by
      rw [Array.mem_toList_iff]
      exact Array.getElem_mem (xs := s.data) hj)
    simpa using this
  · obtain ⟨j, hj, rfl⟩ := List.getElem_of_mem hc
    have hj' : j < s.size := by rw [Array.length_toList] at hj; exact hj
    have := h j hj' hj'
    simp only [Bool.and_eq_true, decide_eq_true_eq]
    exact this

/-- 'isDigits'. -/
theorem isDigits_any (s : ByteArray) (w : World) :
    Calls Ybaf.prog 25 #[.string s] w fun e w' => e = .returned (.bool (isDigB s)) ∧ Below w.heap.size w w' := by
  by_cases h0 : s.size = 0
  · have e : isDigB s = false := by
      rw [Bool.eq_false_iff]
      intro h
      exact ((isDigB_iff s).1 h).1 h0
    rw [e]
    obtain ⟨⟨l⟩⟩ := s
    obtain rfl : l = [] := List.eq_nil_of_length_eq_zero h0
    clear e
    go_enter Ybaf.func25, Ybaf.ntmps25
    go_wp2
    go_ret
    exact ⟨rfl, Below.refl _ _⟩
  · have hne : s.toList.isEmpty = false := by
      rw [List.isEmpty_eq_false_iff]
      intro h
      apply h0
      have : s.data.toList = [] := by rw [← Lib.toList_data]; exact h
      have h2 : s.data.size = 0 := by rw [← Array.length_toList, this]; rfl
      exact h2
    go_enter Ybaf.func25, Ybaf.ntmps25
    go_wp2_with fail
    refine (indexFuncTop_any s w).mono ?_
    rintro e w' ⟨r, rfl, h1, h2⟩
    have e : isDigB s = decide (r < 0) := by
      rw [Bool.eq_iff_iff, isDigB_iff, decide_eq_true_eq, h1]
      exact ⟨fun h => h.2, fun h => ⟨h0, h⟩⟩
    have H : Hid (isDigB s = decide (r < 0) ∧ Below w.heap.size w w') := ⟨e, h2⟩
    clear h1 h2 e
    by_cases hr : r < 0
    · have E : Hid (isDigB s = true) := by show _ = _; rw [H.out.1, decide_eq_true hr]
      go_wp2
      go_ret
      exact ⟨by rw [E.out]; rfl, H.out.2⟩
    · have E : Hid (isDigB s = false) := by show _ = _; rw [H.out.1, decide_eq_false hr]
      have hr' : decide (r < 0) = false := decide_eq_false hr
      go_wp2
      go_ret
      exact ⟨by rw [E.out]; rfl, H.out.2⟩

/-- The bytes of s from a on are letters. -/
def letAt (s : ByteArray) (j : Nat) : Prop := ∀ h : j < s.size, 65 ≤ (s[j]).toNat ∧ (s[j]).toNat ≤ 90
def allLet (s : ByteArray) : Prop := ∀ j, j < s.size → letAt s j

theorem cloL_any (r : Int) (w : World) : Calls Ybaf.prog 30 #[.int .i32 r] w fun e w' => e = .returned (.bool (decide (r < 65 ∨ 90 < r))) ∧ w' = w := by
  by_cases h1 : r < 65
  · have e : decide (r < 65 ∨ 90 < r) = true := by simp [h1]
    rw [e]
    go_enter Ybaf.func30, Ybaf.ntmps30
    go_wp2
    go_ret
    exact ⟨rfl, rfl⟩
  · by_cases h2 : 90 < r
    · have e : decide (r < 65 ∨ 90 < r) = true := by simp [h2]
      rw [e]
      have h1' : decide (r < 65) = false := decide_eq_false h1
      go_enter Ybaf.func30, Ybaf.ntmps30
      go_wp2
      go_ret
      exact ⟨rfl, rfl⟩
    · have e : decide (r < 65 ∨ 90 < r) = false := by simp [h1, h2]
      rw [e]
      have h1' : decide (r < 65) = false := decide_eq_false h1
      have h2' : decide (90 < r) = false := decide_eq_false h2
      go_enter Ybaf.func30, Ybaf.ntmps30
      go_wp2
      go_ret
      exact ⟨rfl, rfl⟩

set_option maxHeartbeats 400000 in
theorem indexFuncL_any (s : ByteArray) (w : World) :
    Calls Ybaf.prog 38 #[.string s, .func (.func 30) #[] #[], .bool true] w fun e w' => ∃ r : Int, e = .returned (.int .i64 r) ∧ (r < 0 ↔ allLet s) ∧ Below w.heap.size w w' := by
  go_enter Ybaf.func38, Ybaf.ntmps38
  go_wp2
  go_loopw [7, 8] (fun _ _ wr => ∃ pos : Nat, pos ≤ s.size ∧ wr = w.iter s pos ∧ Hid (∀ j, j < pos → letAt s j)) (fun _ _ wr => s.size - wr.iterPos w.heap.size)
  case atStart => exact ⟨0, Nat.zero_le _, rfl, fun j hj => by omega⟩
  case round =>
    obtain ⟨pos, hpos, rfl, HD⟩ := hrel
    have BI : Hid (∀ p, Below w.heap.size w (w.iter s p)) := fun p => (Below.refl _ _).alloc (Nat.le_refl _) _
    by_cases hlt : pos < s.size
    · have hnx := run_next_any (P := Ybaf.prog) w s pos 0 hlt
      by_cases hasc : (s[pos]'hlt).toNat < 128
      · rw [decode_ascii s pos hlt hasc] at hnx
        by_cases hd : 65 ≤ (s[pos]'hlt).toNat ∧ (s[pos]'hlt).toNat ≤ 90
        · have HD2 : Hid (∀ j, j < pos + 1 → letAt s j) := fun j hj => by
            by_cases e : j = pos
            · subst e; exact fun _ => hd
            · exact HD.out j (by omega)
          have ec : decide (((s[pos]'hlt).toNat : Int) < 65 ∨ 90 < ((s[pos]'hlt).toNat : Int)) = false := decide_eq_false (by omega)
          have EC : Hid (decide (((s[pos]'hlt).toNat : Int) < 65 ∨ 90 < ((s[pos]'hlt).toNat : Int)) = false) := ec
          clear ec hd
          go_wp2_with fail
          refine (cloL_any _ _).mono ?_
          rintro e w' ⟨rfl, rfl⟩
          rw [EC.out]
          go_wp2
          go_roundw
          case rel => exact ⟨pos + 1, by omega, rfl, HD2.out⟩
          case measure => simp [World.iterPos_iter]; omega
        · have ec : decide (((s[pos]'hlt).toNat : Int) < 65 ∨ 90 < ((s[pos]'hlt).toNat : Int)) = true := decide_eq_true (by omega)
          have EC : Hid (decide (((s[pos]'hlt).toNat : Int) < 65 ∨ 90 < ((s[pos]'hlt).toNat : Int)) = true) := ec
          have ND : Hid (¬ allLet s) := fun h => hd (h pos hlt hlt)
          clear ec hd
          go_wp2_with fail
          refine (cloL_any _ _).mono ?_
          rintro e w' ⟨rfl, rfl⟩
          rw [EC.out]
          go_wp2
          go_ret
          exact ⟨_, rfl, ⟨fun h => absurd h (by omega), fun h => absurd h ND.out⟩, BI.out _⟩
      · have hh := decode_high s pos hlt (by omega)
        have ND : Hid (¬ allLet s) := fun h => by have := h pos hlt hlt; omega
        generalize Utf8.decode s pos = dd at hnx hh
        obtain ⟨r, sz⟩ := dd
        simp only at hnx hh
        have EC : Hid (decide ((r : Int) < 65 ∨ 90 < (r : Int)) = true) := decide_eq_true (by omega)
        go_wp2_with fail
        refine (cloL_any _ _).mono ?_
        rintro e w' ⟨rfl, rfl⟩
        rw [EC.out]
        go_wp2
        go_ret
        exact ⟨_, rfl, ⟨fun h => absurd h (by omega), fun h => absurd h ND.out⟩, BI.out _⟩
    · have hnx := run_next_end (P := Ybaf.prog) w s pos 0 hlt
      obtain rfl : pos = s.size := by omega
      have AD : Hid (allLet s) := HD.out
      go_wp2
      go_ret
      exact ⟨-1, rfl, ⟨fun _ => AD.out, fun _ => by omega⟩, BI.out _⟩

theorem indexFuncTopL_any (s : ByteArray) (w : World) :
    Calls Ybaf.prog 29 #[.string s, .func (.func 30) #[] #[]] w fun e w' => ∃ r : Int, e = .returned (.int .i64 r) ∧ (r < 0 ↔ allLet s) ∧ Below w.heap.size w w' := by
  go_enter Ybaf.func29, Ybaf.ntmps29
  go_wp2_with fail
  refine (indexFuncL_any s w).mono ?_
  rintro e w' ⟨r, rfl, h1, h2⟩
  have H : Hid ((r < 0 ↔ allLet s) ∧ Below w.heap.size w w') := ⟨h1, h2⟩
  clear h1 h2
  go_wp2
  go_ret
  exact ⟨r, rfl, H.out⟩

/-- One byte or more, all letters. -/
def isLetB (s : ByteArray) : Bool := !s.data.toList.isEmpty && s.data.toList.all fun c => decide (65 ≤ c.toNat) && decide (c.toNat ≤ 90)

theorem isLetB_iff (s : ByteArray) : isLetB s = true ↔ s.size ≠ 0 ∧ allLet s := by
  unfold isLetB allLet
  rw [Bool.and_eq_true, List.all_eq_true, Bool.not_eq_true', List.isEmpty_eq_false_iff]
  have e : s.data.toList ≠ [] ↔ s.size ≠ 0 := by
    constructor
    · intro h h2
      exact h (List.eq_nil_of_length_eq_zero (by rw [Array.length_toList]; exact h2))
    · intro h h2
      apply h
      have h3 : s.data.size = 0 := by rw [← Array.length_toList, h2]; rfl
      exact h3
  refine and_congr e ⟨fun h j hj hj' => ?_, fun h c hc => ?_⟩
  · have := h (s[j]) (by
      rw [Array.mem_toList_iff]
      exact Array.getElem_mem (xs := s.data) hj)
    simpa using this
  · obtain ⟨j, hj, rfl⟩ := List.getElem_of_mem hc
    have hj' : j < s.size := by rw [Array.length_toList] at hj; exact hj
    have := h j hj' hj'
    simp only [Bool.and_eq_true, decide_eq_true_eq]
    exact this

/-- 'isLetters'. -/
theorem isLetters_any (s : ByteArray) (w : World) :
    Calls Ybaf.prog 24 #[.string s] w fun e w' => e = .returned (.bool (isLetB s)) ∧ Below w.heap.size w w' := by
  by_cases h0 : s.size = 0
  · have e : isLetB s = false := by
      rw [Bool.eq_false_iff]
      intro h
      exact ((isLetB_iff s).1 h).1 h0
    rw [e]
    obtain ⟨⟨l⟩⟩ := s
    obtain rfl : l = [] := List.eq_nil_of_length_eq_zero h0
    clear e
    go_enter Ybaf.func24, Ybaf.ntmps24
    go_wp2
    go_ret
    exact ⟨rfl, Below.refl _ _⟩
  · have hne : s.toList.isEmpty = false := by
      rw [List.isEmpty_eq_false_iff]
      intro h
      apply h0
      have : s.data.toList = [] := by rw [← Lib.toList_data]; exact h
      have h2 : s.data.size = 0 := by rw [← Array.length_toList, this]; rfl
      exact h2
    go_enter Ybaf.func24, Ybaf.ntmps24
    go_wp2_with fail
    refine (indexFuncTopL_any s w).mono ?_
    rintro e w' ⟨r, rfl, h1, h2⟩
    have e : isLetB s = decide (r < 0) := by
      rw [Bool.eq_iff_iff, isLetB_iff, decide_eq_true_eq, h1]
      exact ⟨fun h => h.2, fun h => ⟨h0, h⟩⟩
    have H : Hid (isLetB s = decide (r < 0) ∧ Below w.heap.size w w') := ⟨e, h2⟩
    clear h1 h2 e
    by_cases hr : r < 0
    · have E : Hid (isLetB s = true) := by show _ = _; rw [H.out.1, decide_eq_true hr]
      go_wp2
      go_ret
      exact ⟨by rw [E.out]; rfl, H.out.2⟩
    · have E : Hid (isLetB s = false) := by show _ = _; rw [H.out.1, decide_eq_false hr]
      have hr' : decide (r < 0) = false := decide_eq_false hr
      go_wp2
      go_ret
      exact ⟨by rw [E.out]; rfl, H.out.2⟩

end Go.Proofs.YbulkdefyFmt
