/-
  OWN WORK. zzs5276amodel.
-/
import Derived.Test.YbulkdefyCode
import Derived.Deep.QuietTactic
import Derived.BigQuiet
namespace Go.Proofs.Ybulkdefy
open Go.RowKit

/-- What the table holds at c behind the first k stores. -/
def lastTo (ks vs : List Int) (c : Int) : Nat → Int
  | 0 => 0
  | k + 1 => if ks.getD k 0 = c then vs.getD k 0 % 6 else lastTo ks vs c k

theorem lastTo_bd (ks vs : List Int) (c : Int) : ∀ k, 0 ≤ lastTo ks vs c k ∧ lastTo ks vs c k ≤ 5
  | 0 => by simp [lastTo]
  | k + 1 => by
    have := lastTo_bd ks vs c k
    unfold lastTo
    split <;> omega

/-- The model's answer. -/
def modelLen (s : ByteArray) (n : Nat) : Int := if n = 0 ∨ s.size < 1 + n then 0 else if isDigB (s.extract 1 (1 + n)) = true then 1 + (n : Int) else 0

theorem modelLen_eq (s : ByteArray) (n : Nat) : modelLen s n = codeLen s n := by
  unfold modelLen codeLen
  by_cases h0 : n = 0
  · subst h0
    have e : isDigB (s.extract 1 (1 + 0)) = false := by
      rw [Bool.eq_false_iff]
      intro h
      exact ((isDigB_iff _).1 h).1 (by simp)
    rw [if_pos (.inl rfl), if_neg (fun h => by rw [e] at h; exact absurd h.2 (by decide))]
  · by_cases h1 : s.size < 1 + n
    · rw [if_pos (.inr h1), if_neg (by omega)]
    · rw [if_neg (by omega)]
      by_cases hd : isDigB (s.extract 1 (1 + n)) = true
      · rw [if_pos hd, if_pos ⟨by omega, hd⟩]
      · rw [if_neg hd, if_neg (fun h => hd h.2)]

theorem extract_digits (s : ByteArray) (n : Nat) (h0 : n ≠ 0) (h1 : 1 + n ≤ s.size) : isDigB (s.extract 1 (1 + n)) = true ↔ ∀ j, 1 ≤ j → j ≤ n → digAt s j := by
  rw [isDigB_iff]
  have hsz : (s.extract 1 (1 + n)).size = n := by simp; omega
  have hget : ∀ (j : Nat) (hj : j < (s.extract 1 (1 + n)).size), (s.extract 1 (1 + n))[j] = s[1 + j]'(by omega) := by
    intro j hj
    exact ByteArray.getElem_extract hj
  constructor
  · rintro ⟨_, h⟩ j hj1 hj2 hj
    have := h (j - 1) (by omega) (by omega)
    rw [hget (j - 1) (by omega)] at this
    have e : 1 + (j - 1) = j := by omega
    simp only [e] at this
    exact this
  · intro h
    refine ⟨by omega, fun j hj hj' => ?_⟩
    rw [hget j hj]
    exact h (1 + j) (by omega) (by omega) (by omega)

theorem model_empty (s : ByteArray) (h0 : s.size = 0) (kv vv : Value) (w : World) :
    Calls Yba.prog 6 #[.string s, kv, vv] w fun e w' => e = .returned (.int .i64 0) ∧ Below w.heap.size w w' := by
  obtain ⟨⟨l⟩⟩ := s
  obtain rfl : l = [] := List.eq_nil_of_length_eq_zero h0
  go_enter Yba.func6, Yba.ntmps6
  go_wp2
  go_ret
  exact ⟨rfl, Below.refl _ _⟩

set_option maxHeartbeats 1000000 in
theorem model_any (s : ByteArray) (h0 : 0 < s.size) (hs : s.size ≤ maxLen) (ka va : Option Addr) (kb ko kl kc vb vo vl vc : Nat) (ks vs : List Int) (m : Nat) (w : World)
    (hm : m = min kl vl) (hkl : kl ≤ 1024) (hvl : vl ≤ 1024) (hka : 0 < m → ka = some ⟨kb, ko, none⟩) (hva : 0 < m → va = some ⟨vb, vo, none⟩)
    (hk : ∀ i, i < m → w.cell? ⟨kb, ko + i, none⟩ = some (.int .u8 (ks.getD i 0))) (hv : ∀ i, i < m → w.cell? ⟨vb, vo + i, none⟩ = some (.int .u8 (vs.getD i 0)))
    (hb : ∀ i, i < m → 0 ≤ vs.getD i 0 ∧ vs.getD i 0 ≤ 255) (n : Nat) (hn : lastTo ks vs ((s[0]'h0).toNat : Int) m = (n : Int)) :
    Calls Yba.prog 6 #[.string s, .slice ka kl kc, .slice va vl vc] w fun e w' => e = .returned (.int .i64 (modelLen s n)) ∧ Below w.heap.size w w' := by
  unfold maxLen at hs
  have hne := toList_ne s h0
  have h0' : (0 : Int) < (s.size : Int) := by omega
  have H : Hid ((0 < m → ka = some ⟨kb, ko, none⟩) ∧ (0 < m → va = some ⟨vb, vo, none⟩) ∧ (∀ i, i < m → w.cell? ⟨kb, ko + i, none⟩ = some (.int .u8 (ks.getD i 0))) ∧ (∀ i, i < m → w.cell? ⟨vb, vo + i, none⟩ = some (.int .u8 (vs.getD i 0))) ∧ (∀ i, i < m → 0 ≤ vs.getD i 0 ∧ vs.getD i 0 ≤ 255)) := ⟨hka, hva, hk, hv, hb⟩
  have HN : Hid (lastTo ks vs ((s[0]'h0).toNat : Int) m = (n : Int)) := hn
  have HM : Hid (m = min kl vl) := hm
  have hm1 : m ≤ kl := by omega
  have hm2 : m ≤ vl := by omega
  clear hka hva hk hv hb hn hm
  go_enter Yba.func6, Yba.ntmps6
  go_wp2
  go_loopw [7, 8] (fun sn sj wr => ∃ k q : Nat, k ≤ m ∧ sj = .int .i64 k ∧ sn = .int .i64 (lastTo ks vs ((s[0]'h0).toNat : Int) k) ∧ wr = w.drewN q) (fun _ sj _ => m - (intOf sj).toNat)
  case atStart => exact ⟨0, 0, Nat.zero_le _, rfl, rfl, rfl⟩
  case round =>
    obtain ⟨k, q, hk, rfl, rfl, rfl⟩ := hrel
    have hbd := lastTo_bd ks vs ((s[0]'h0).toNat : Int) k
    by_cases hlt : k < m
    · obtain rfl := H.out.1 (by omega)
      obtain rfl := H.out.2.1 (by omega)
      have c1 := H.out.2.2.1 k hlt
      have c2 := H.out.2.2.2.1 k hlt
      have hvb := H.out.2.2.2.2 k hlt
      have LS : Hid (lastTo ks vs ((s[0]'h0).toNat : Int) (k + 1) = if ks.getD k 0 = ((s[0]'h0).toNat : Int) then vs.getD k 0 % 6 else lastTo ks vs ((s[0]'h0).toNat : Int) k) := rfl
      have l1 : (k : Int) < (kl : Int) := by omega
      have l2 : (k : Int) < (vl : Int) := by omega
      generalize ks.getD k 0 = kk at c1 LS
      generalize vs.getD k 0 = vv at c2 LS hvb
      generalize lastTo ks vs ((s[0]'h0).toNat : Int) k = cur at LS hbd
      by_cases he : kk = ((s[0]'h0).toNat : Int)
      · have LF : Hid (lastTo ks vs ((s[0]'h0).toNat : Int) (k + 1) = vv % 6) := by show _ = _; rw [LS.out, if_pos he]
        have he' : (kk == ((s[0]'h0).toNat : Int)) = true := beq_iff_eq.2 he
        clear LS he
        go_wp2
        go_quiet (fail)
        go_wp2
        go_roundw
        case rel => exact ⟨k + 1, _, by omega, by go_num, by rw [LF.out], rfl⟩
        case measure => simp [intOf]; omega
      · have LF : Hid (lastTo ks vs ((s[0]'h0).toNat : Int) (k + 1) = cur) := by show _ = _; rw [LS.out, if_neg he]
        have he' : (kk == ((s[0]'h0).toNat : Int)) = false := beq_eq_false_iff_ne.2 he
        clear LS he
        go_wp2
        go_quiet (fail)
        go_wp2
        go_roundw
        case rel => exact ⟨k + 1, _, by omega, by go_num, by rw [LF.out], rfl⟩
        case measure => simp [intOf]; omega
    · obtain rfl : k = m := by omega
      rw [HN.out]
      have hn5 : n ≤ 5 := by have := HN.out; omega
      have BW : Hid (∀ q, Below w.heap.size w (w.drewN q)) := fun q => ⟨rfl, rfl, rfl, Nat.le_refl _, fun _ _ => rfl⟩
      have hmm : Hid (k = min kl vl) := HM.out
      clear hbd
      by_cases hkk : k < kl
      · have l2 : decide (k < vl) = false := decide_eq_false (by have := hmm.out; omega)
        have l2' : vl ≤ k := by have := hmm.out; omega
        have l1 : (k : Int) < (kl : Int) := by omega
        by_cases hn0 : n = 0
        · subst hn0
          have E : Hid (modelLen s 0 = 0) := by show _ = _; unfold modelLen; rw [if_pos (.inl rfl)]
          go_wp2
          go_ret
          exact ⟨by rw [E.out]; rfl, BW.out _⟩
        · have hn0' : ((n : Int) == 0) = false := beq_eq_false_iff_ne.2 (by omega)
          by_cases hsh : s.size < 1 + n
          · have E : Hid (modelLen s n = 0) := by show _ = _; unfold modelLen; rw [if_pos (.inr hsh)]
            have hsh' : (s.size : Int) < 1 + (n : Int) := by omega
            go_wp2
            go_ret
            exact ⟨by rw [E.out]; rfl, BW.out _⟩
          · have hsh' : decide ((s.size : Int) < 1 + (n : Int)) = false := decide_eq_false (by omega)
            have ML : Hid (modelLen s n = if isDigB (s.extract 1 (1 + n)) = true then 1 + (n : Int) else 0) := by show _ = _; unfold modelLen; rw [if_neg (by omega)]
            have ED : Hid (isDigB (s.extract 1 (1 + n)) = true ↔ ∀ j, 1 ≤ j → j ≤ n → digAt s j) := extract_digits s n hn0 (by omega)
            go_wp2
            go_loop [9] (fun si => ∃ t : Nat, 1 ≤ t ∧ t ≤ n + 1 ∧ si = .int .i64 t ∧ Hid (∀ j, 1 ≤ j → j < t → digAt s j)) (fun si => n + 1 - (intOf si).toNat)
            case atStart => exact ⟨1, by omega, by omega, rfl, fun j _ _ => by omega⟩
            case round =>
              obtain ⟨t, ht1, ht2, rfl, HD⟩ := hrel
              by_cases htn : t ≤ n
              · have hts : t < s.size := by omega
                have htn' : (t : Int) ≤ (n : Int) := by omega
                have hts' : (t : Int) < (s.size : Int) := by omega
                by_cases h48 : (s[t]'hts).toNat < 48
                · have ND : Hid (modelLen s n = 0) := by
                    show _ = _
                    rw [ML.out, if_neg (fun h => ?_)]
                    have := ED.out.1 h t ht1 htn hts
                    omega
                  have h48' : ((s[t]'hts).toNat : Int) < 48 := by omega
                  go_wp2
                  go_ret
                  exact ⟨by rw [ND.out]; rfl, BW.out _⟩
                · have h48' : decide (((s[t]'hts).toNat : Int) < 48) = false := decide_eq_false (by omega)
                  by_cases h57 : 57 < (s[t]'hts).toNat
                  · have ND : Hid (modelLen s n = 0) := by
                      show _ = _
                      rw [ML.out, if_neg (fun h => ?_)]
                      have := ED.out.1 h t ht1 htn hts
                      omega
                    have h57' : (57 : Int) < ((s[t]'hts).toNat : Int) := by omega
                    go_wp2
                    go_ret
                    exact ⟨by rw [ND.out]; rfl, BW.out _⟩
                  · have h57' : decide ((57 : Int) < ((s[t]'hts).toNat : Int)) = false := decide_eq_false (by omega)
                    have HD2 : Hid (∀ j, 1 ≤ j → j < t + 1 → digAt s j) := fun j hj1 hj2 => by
                      by_cases e : j = t
                      · subst e; exact fun _ => by omega
                      · exact HD.out j hj1 (by omega)
                    go_wp2
                    go_round
                    case rel => exact ⟨t + 1, by omega, by omega, by go_num, HD2.out⟩
                    case measure => simp [intOf]; omega
              · have ND : Hid (modelLen s n = 1 + (n : Int)) := by
                  show _ = _
                  rw [ML.out, if_pos (ED.out.2 (fun j hj1 hj2 => HD.out j hj1 (by omega)))]
                have htn' : decide ((t : Int) ≤ (n : Int)) = false := decide_eq_false (by omega)
                go_wp2
                go_ret
                exact ⟨by rw [ND.out]; rfl, BW.out _⟩
      · have l1 : decide (k < kl) = false := decide_eq_false (by omega)
        by_cases hn0 : n = 0
        · subst hn0
          have E : Hid (modelLen s 0 = 0) := by show _ = _; unfold modelLen; rw [if_pos (.inl rfl)]
          go_wp2
          go_ret
          exact ⟨by rw [E.out]; rfl, BW.out _⟩
        · have hn0' : ((n : Int) == 0) = false := beq_eq_false_iff_ne.2 (by omega)
          by_cases hsh : s.size < 1 + n
          · have E : Hid (modelLen s n = 0) := by show _ = _; unfold modelLen; rw [if_pos (.inr hsh)]
            have hsh' : (s.size : Int) < 1 + (n : Int) := by omega
            go_wp2
            go_ret
            exact ⟨by rw [E.out]; rfl, BW.out _⟩
          · have hsh' : decide ((s.size : Int) < 1 + (n : Int)) = false := decide_eq_false (by omega)
            have ML : Hid (modelLen s n = if isDigB (s.extract 1 (1 + n)) = true then 1 + (n : Int) else 0) := by show _ = _; unfold modelLen; rw [if_neg (by omega)]
            have ED : Hid (isDigB (s.extract 1 (1 + n)) = true ↔ ∀ j, 1 ≤ j → j ≤ n → digAt s j) := extract_digits s n hn0 (by omega)
            go_wp2
            go_loop [9] (fun si => ∃ t : Nat, 1 ≤ t ∧ t ≤ n + 1 ∧ si = .int .i64 t ∧ Hid (∀ j, 1 ≤ j → j < t → digAt s j)) (fun si => n + 1 - (intOf si).toNat)
            case atStart => exact ⟨1, by omega, by omega, rfl, fun j _ _ => by omega⟩
            case round =>
              obtain ⟨t, ht1, ht2, rfl, HD⟩ := hrel
              by_cases htn : t ≤ n
              · have hts : t < s.size := by omega
                have htn' : (t : Int) ≤ (n : Int) := by omega
                have hts' : (t : Int) < (s.size : Int) := by omega
                by_cases h48 : (s[t]'hts).toNat < 48
                · have ND : Hid (modelLen s n = 0) := by
                    show _ = _
                    rw [ML.out, if_neg (fun h => ?_)]
                    have := ED.out.1 h t ht1 htn hts
                    omega
                  have h48' : ((s[t]'hts).toNat : Int) < 48 := by omega
                  go_wp2
                  go_ret
                  exact ⟨by rw [ND.out]; rfl, BW.out _⟩
                · have h48' : decide (((s[t]'hts).toNat : Int) < 48) = false := decide_eq_false (by omega)
                  by_cases h57 : 57 < (s[t]'hts).toNat
                  · have ND : Hid (modelLen s n = 0) := by
                      show _ = _
                      rw [ML.out, if_neg (fun h => ?_)]
                      have := ED.out.1 h t ht1 htn hts
                      omega
                    have h57' : (57 : Int) < ((s[t]'hts).toNat : Int) := by omega
                    go_wp2
                    go_ret
                    exact ⟨by rw [ND.out]; rfl, BW.out _⟩
                  · have h57' : decide ((57 : Int) < ((s[t]'hts).toNat : Int)) = false := decide_eq_false (by omega)
                    have HD2 : Hid (∀ j, 1 ≤ j → j < t + 1 → digAt s j) := fun j hj1 hj2 => by
                      by_cases e : j = t
                      · subst e; exact fun _ => by omega
                      · exact HD.out j hj1 (by omega)
                    go_wp2
                    go_round
                    case rel => exact ⟨t + 1, by omega, by omega, by go_num, HD2.out⟩
                    case measure => simp [intOf]; omega
              · have ND : Hid (modelLen s n = 1 + (n : Int)) := by
                  show _ = _
                  rw [ML.out, if_pos (ED.out.2 (fun j hj1 hj2 => HD.out j hj1 (by omega)))]
                have htn' : decide ((t : Int) ≤ (n : Int)) = false := decide_eq_false (by omega)
                go_wp2
                go_ret
                exact ⟨by rw [ND.out]; rfl, BW.out _⟩
end Go.Proofs.Ybulkdefy
