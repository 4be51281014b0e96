/-
  OWN WORK. The law's own letters and digits; isLocation, isDuration, the separators.
-/
import Derived.Test.YbulkdefyFmtChars
namespace Go.Proofs.YbulkdefyFmt
open Go.RowKit

theorem toList_ne (s : ByteArray) (h0 : 0 < s.size) : s.toList.isEmpty = false := by
  rw [List.isEmpty_eq_false_iff]
  intro h
  have : s.data.toList = [] := by rw [← Lib.toList_data]; exact h
  have h2 : s.data.size = 0 := by rw [← Array.length_toList, this]; rfl
  have h3 : s.size = 0 := h2
  omega

set_option maxHeartbeats 400000 in
theorem cletters_any (s : ByteArray) (hs : s.size ≤ maxLen) (w : World) :
    Calls Ybaf.prog 12 #[.string s] w fun e w' => e = .returned (.bool (isLetB s)) ∧ w' = w := by
  by_cases h0 : s.size = 0
  · have e : isLetB s = false := by
      rw [Bool.eq_false_iff]
      intro h
      exact ((isLetB_iff s).1 h).1 h0
    rw [e]
    obtain ⟨⟨l⟩⟩ := s
    obtain rfl : l = [] := List.eq_nil_of_length_eq_zero h0
    clear e
    go_enter Ybaf.func12, Ybaf.ntmps12
    go_wp2
    go_ret
    exact ⟨rfl, rfl⟩
  · have hne := toList_ne s (by omega)
    unfold maxLen at hs
    have NL : Hid (∀ t, t < s.size → ¬ letAt s t → isLetB s = false) := fun t ht h => by
      rw [Bool.eq_false_iff]
      intro h2
      exact h (((isLetB_iff s).1 h2).2 t ht)
    have YL : Hid ((∀ j, j < s.size → letAt s j) → isLetB s = true) := fun h => (isLetB_iff s).2 ⟨h0, h⟩
    clear h0
    go_enter Ybaf.func12, Ybaf.ntmps12
    go_wp2
    go_loop [3] (fun si => ∃ t : Nat, t ≤ s.size ∧ si = .int .i64 t ∧ Hid (∀ j, j < t → letAt s j)) (fun si => s.size - (intOf si).toNat)
    case atStart => exact ⟨0, by omega, rfl, fun j hj => by omega⟩
    case round =>
      obtain ⟨t, ht, rfl, HD⟩ := hrel
      by_cases hts : t < s.size
      · have hts' : (t : Int) < (s.size : Int) := by omega
        by_cases hlo : (s[t]'hts).toNat < 65
        · have ND : Hid (isLetB s = false) := NL.out t hts (fun h => by have := h hts; omega)
          have hlo' : ((s[t]'hts).toNat : Int) < 65 := by omega
          go_wp2
          go_ret
          exact ⟨by rw [ND.out]; rfl, rfl⟩
        · have hlo' : decide (((s[t]'hts).toNat : Int) < 65) = false := decide_eq_false (by omega)
          by_cases hhi : 90 < (s[t]'hts).toNat
          · have ND : Hid (isLetB s = false) := NL.out t hts (fun h => by have := h hts; omega)
            have hhi' : (90 : Int) < ((s[t]'hts).toNat : Int) := by omega
            go_wp2
            go_ret
            exact ⟨by rw [ND.out]; rfl, rfl⟩
          · have hhi' : decide ((90 : Int) < ((s[t]'hts).toNat : Int)) = false := decide_eq_false (by omega)
            have HD2 : Hid (∀ j, j < t + 1 → letAt s j) := fun j hj2 => by
              by_cases e : j = t
              · subst e; exact fun _ => by omega
              · exact HD.out j (by omega)
            go_wp2
            go_round
            case rel => exact ⟨t + 1, by omega, by go_num, HD2.out⟩
            case measure => simp [intOf]; omega
      · have ND : Hid (isLetB s = true) := YL.out (fun j hj => HD.out j (by omega))
        have hts' : decide ((t : Int) < (s.size : Int)) = false := decide_eq_false (by omega)
        have hts2 : decide (t < s.size) = false := decide_eq_false hts
        go_wp2
        go_ret
        exact ⟨by rw [ND.out]; rfl, rfl⟩

set_option maxHeartbeats 400000 in
theorem cdigits_any (s : ByteArray) (hs : s.size ≤ maxLen) (w : World) :
    Calls Ybaf.prog 13 #[.string s] w fun e w' => e = .returned (.bool (isDigB s)) ∧ w' = w := by
  by_cases h0 : s.size = 0
  · have e : isDigB s = false := by
      rw [Bool.eq_false_iff]
      intro h
      exact ((isDigB_iff s).1 h).1 h0
    rw [e]
    obtain ⟨⟨l⟩⟩ := s
    obtain rfl : l = [] := List.eq_nil_of_length_eq_zero h0
    clear e
    go_enter Ybaf.func13, Ybaf.ntmps13
    go_wp2
    go_ret
    exact ⟨rfl, rfl⟩
  · have hne := toList_ne s (by omega)
    unfold maxLen at hs
    have NL : Hid (∀ t, t < s.size → ¬ digAt s t → isDigB s = false) := fun t ht h => by
      rw [Bool.eq_false_iff]
      intro h2
      exact h (((isDigB_iff s).1 h2).2 t ht)
    have YL : Hid ((∀ j, j < s.size → digAt s j) → isDigB s = true) := fun h => (isDigB_iff s).2 ⟨h0, h⟩
    clear h0
    go_enter Ybaf.func13, Ybaf.ntmps13
    go_wp2
    go_loop [3] (fun si => ∃ t : Nat, t ≤ s.size ∧ si = .int .i64 t ∧ Hid (∀ j, j < t → digAt s j)) (fun si => s.size - (intOf si).toNat)
    case atStart => exact ⟨0, by omega, rfl, fun j hj => by omega⟩
    case round =>
      obtain ⟨t, ht, rfl, HD⟩ := hrel
      by_cases hts : t < s.size
      · have hts' : (t : Int) < (s.size : Int) := by omega
        by_cases hlo : (s[t]'hts).toNat < 48
        · have ND : Hid (isDigB s = false) := NL.out t hts (fun h => by have := h hts; omega)
          have hlo' : ((s[t]'hts).toNat : Int) < 48 := by omega
          go_wp2
          go_ret
          exact ⟨by rw [ND.out]; rfl, rfl⟩
        · have hlo' : decide (((s[t]'hts).toNat : Int) < 48) = false := decide_eq_false (by omega)
          by_cases hhi : 57 < (s[t]'hts).toNat
          · have ND : Hid (isDigB s = false) := NL.out t hts (fun h => by have := h hts; omega)
            have hhi' : (57 : Int) < ((s[t]'hts).toNat : Int) := by omega
            go_wp2
            go_ret
            exact ⟨by rw [ND.out]; rfl, rfl⟩
          · have hhi' : decide ((57 : Int) < ((s[t]'hts).toNat : Int)) = false := decide_eq_false (by omega)
            have HD2 : Hid (∀ j, j < t + 1 → digAt s j) := fun j hj2 => by
              by_cases e : j = t
              · subst e; exact fun _ => by omega
              · exact HD.out j (by omega)
            go_wp2
            go_round
            case rel => exact ⟨t + 1, by omega, by go_num, HD2.out⟩
            case measure => simp [intOf]; omega
      · have ND : Hid (isDigB s = true) := YL.out (fun j hj => HD.out j (by omega))
        have hts' : decide ((t : Int) < (s.size : Int)) = false := decide_eq_false (by omega)
        have hts2 : decide (t < s.size) = false := decide_eq_false hts
        go_wp2
        go_ret
        exact ⟨by rw [ND.out]; rfl, rfl⟩

theorem isLoc_any (s : ByteArray) (w : World) :
    Calls Ybaf.prog 17 #[.string s] w fun e w' => e = .returned (.bool (decide (s.size = 4) && isLetB s)) ∧ Below w.heap.size w w' := by
  by_cases h4 : s.size = 4
  · go_enter Ybaf.func17, Ybaf.ntmps17
    have h4' : ((s.size : Int) == 4) = true := by rw [h4]; rfl
    go_wp2_with fail
    refine (isLetters_any s w).mono ?_
    rintro e w' ⟨rfl, hb⟩
    have H : Hid (Below w.heap.size w w') := hb
    have E : Hid ((decide (s.size = 4) && isLetB s) = isLetB s) := by show _ = _; rw [decide_eq_true h4]; rfl
    clear hb h4 h4'
    go_wp2
    go_ret
    exact ⟨by rw [E.out]; rfl, H.out⟩
  · have h4' : ((s.size : Int) == 4) = false := beq_eq_false_iff_ne.2 (by omega)
    have h42 : (s.size == 4) = false := beq_eq_false_iff_ne.2 h4
    have E : Hid ((decide (s.size = 4) && isLetB s) = false) := by show _ = _; rw [decide_eq_false h4]; rfl
    go_enter Ybaf.func17, Ybaf.ntmps17
    go_wp2
    go_ret
    exact ⟨by rw [E.out]; rfl, Below.refl _ _⟩

theorem four_list {l : List UInt8} (h : l.length = 4) : ∃ a b c d, l = [a, b, c, d] := by
  match l, h with
  | [a, b, c, d], _ => exact ⟨a, b, c, d, rfl⟩

/-- 'isDuration', by bytes. -/
def durB (s : ByteArray) : Bool := decide (s.size = 4) && isDigB s && decide ((s.data.toList.getD 2 0).toNat < 54)

theorem dur_less (s : ByteArray) (h4 : s.size = 4) (hd : isDigB s = true) : Op.bytesLess (s.extract 2 4).toList [54, 48] = durB s := by
  unfold durB
  rw [hd, decide_eq_true h4]
  obtain ⟨⟨l⟩⟩ := s
  obtain ⟨a, b, c, d, rfl⟩ := four_list (l := l) h4
  have hb := hd
  simp [isDigB] at hb
  have e : (ByteArray.extract ⟨⟨[a, b, c, d]⟩⟩ 2 4).toList = [c, d] := by
    rw [Lib.toList_data]
    simp
  rw [e]
  have hd0 : ¬ d < 48 := by
    intro h
    have : d.toNat < 48 := h
    have := hb.2.2.2.1
    omega
  simp only [Op.bytesLess]
  by_cases h1 : c < 54
  · have h1' : c.toNat < 54 := h1
    simp [h1, h1']
  · have h1' : ¬ c.toNat < 54 := h1
    simp [h1, h1', hd0]

theorem isDur_any (s : ByteArray) (w : World) :
    Calls Ybaf.prog 18 #[.string s] w fun e w' => e = .returned (.bool (durB s)) ∧ Below w.heap.size w w' := by
  by_cases h4 : s.size = 4
  · go_enter Ybaf.func18, Ybaf.ntmps18
    have h4' : ((s.size : Int) == 4) = true := by rw [h4]; rfl
    go_wp2_with fail
    refine (isDigits_any s w).mono ?_
    rintro e w' ⟨rfl, hb⟩
    have H : Hid (Below w.heap.size w w') := hb
    clear hb
    cases hd : isDigB s with
    | true =>
      have E : Hid (durB s = Op.bytesLess (s.extract 2 4).toList [54, 48]) := (dur_less s h4 hd).symm
      go_wp2
      go_ret
      exact ⟨by rw [E.out]; rfl, H.out⟩
    | false =>
      have E : Hid (durB s = false) := by show _ = _; unfold durB; rw [hd, Bool.and_false, Bool.false_and]
      go_wp2
      go_ret
      exact ⟨by rw [E.out]; rfl, H.out⟩
  · have h4' : ((s.size : Int) == 4) = false := beq_eq_false_iff_ne.2 (by omega)
    have h42 : (s.size == 4) = false := beq_eq_false_iff_ne.2 h4
    have E : Hid (durB s = false) := by show _ = _; unfold durB; rw [decide_eq_false h4]; rfl
    go_enter Ybaf.func18, Ybaf.ntmps18
    go_wp2
    go_ret
    exact ⟨by rw [E.out]; rfl, Below.refl _ _⟩

def sepOf (i : Nat) : List UInt8 := match i % 4 with
  | 0 => [32]
  | 1 => [32, 32]
  | 2 => [9]
  | _ => [10, 13, 32]

theorem sep_any (i : Nat) (w : World) :
    Calls Ybaf.prog 7 #[.int .i64 (i : Int)] w fun e w' => e = .returned (.string ⟨(sepOf i).toArray⟩) ∧ w' = w := by
  have hr : i % 4 = 0 ∨ i % 4 = 1 ∨ i % 4 = 2 ∨ i % 4 = 3 := by omega
  rcases hr with h | h | h | h
  all_goals
    have ht : (i : Int).tmod 4 = ((i % 4 : Nat) : Int) := (Int.ofNat_tmod i 4).symm
    rw [h] at ht
    have E : Hid (sepOf i = sepOf (i % 4)) := by show _ = _; unfold sepOf; rw [Nat.mod_mod]
    rw [h] at E
    go_enter Ybaf.func7, Ybaf.ntmps7
    go_wp2
    go_ret
    exact ⟨by rw [E.out]; rfl, rfl⟩
end Go.Proofs.YbulkdefyFmt
