/-
  OWN WORK. Rows of strings; slices.Equal at two like rows; zzs5276cok.
-/
import Derived.Test.YbulkdefyFmtWord
import Derived.Deep.QuietTactic
import Derived.BigQuiet
namespace Go.Proofs.YbulkdefyFmt
open Go.RowKit

/-- From the offset on the block holds the strings. -/
def RowS (w : World) (g off : Nat) (ss : List ByteArray) : Prop := ∀ i, i < ss.length → w.cell? ⟨g, off + i, none⟩ = some (.string (ss.getD i ByteArray.empty))

def locB (s : ByteArray) : Bool := decide (s.size = 4) && isLetB s
def okHead (s : ByteArray) : Bool := decide (s.size = 8) && isLetB (s.extract 0 4) && isDigB (s.extract 4 8) && decide ((s.data.toList.getD 6 0).toNat < 54)
def okB : List ByteArray → Bool
  | [] => false
  | s :: r => okHead s && r.all locB

theorem okB_of (ss : List ByteArray) (h0 : 0 < ss.length) (hh : okHead (ss.getD 0 ByteArray.empty) = true) (ht : ∀ j, 1 ≤ j → j < ss.length → locB (ss.getD j ByteArray.empty) = true) : okB ss = true := by
  match ss, h0 with
  | s :: r, _ =>
    have hh' : okHead s = true := hh
    show (okHead s && r.all locB) = true
    rw [hh', Bool.true_and, List.all_eq_true]
    intro x hx
    obtain ⟨j, hj, rfl⟩ := List.getElem_of_mem hx
    have := ht (j + 1) (by omega) (by simp; omega)
    simpa [List.getD_eq_getElem?_getD, hj] using this

theorem okB_head (ss : List ByteArray) (h0 : 0 < ss.length) (hh : okHead (ss.getD 0 ByteArray.empty) = false) : okB ss = false := by
  match ss, h0 with
  | s :: r, _ =>
    have hh' : okHead s = false := hh
    show (okHead s && r.all locB) = false
    rw [hh', Bool.false_and]

theorem okB_tail (ss : List ByteArray) (j : Nat) (h1 : 1 ≤ j) (hj : j < ss.length) (hh : locB (ss.getD j ByteArray.empty) = false) : okB ss = false := by
  match ss with
  | [] => rfl
  | s :: r =>
    show (okHead s && r.all locB) = false
    have : r.all locB = false := by
      rw [List.all_eq_false]
      obtain ⟨k, rfl⟩ : ∃ k, j = k + 1 := ⟨j - 1, by omega⟩
      have hk : k < r.length := by simpa using hj
      refine ⟨r[k], List.getElem_mem hk, ?_⟩
      rw [show r[k] = (s :: r).getD (k + 1) ByteArray.empty by simp [List.getD_eq_getElem?_getD, hk], hh]
      decide
    rw [this, Bool.and_false]

set_option maxHeartbeats 400000 in
theorem equal_any (g1 o1 g2 o2 n c1 c2 : Nat) (ss : List ByteArray) (w : World) (hn : ss.length = n) (hn2 : n ≤ 100000) (h1 : RowS w g1 o1 ss) (h2 : RowS w g2 o2 ss) :
    Calls Ybaf.prog 11 #[.slice (some ⟨g1, o1, none⟩) n c1, .slice (some ⟨g2, o2, none⟩) n c2] w fun e w' => e = .returned (.bool true) ∧ Below w.heap.size w w' := by
  have H : Hid (RowS w g1 o1 ss ∧ RowS w g2 o2 ss ∧ ss.length = n) := ⟨h1, h2, hn⟩
  have BW : Hid (∀ q, Below w.heap.size w (w.drewN q)) := fun q => ⟨rfl, rfl, rfl, Nat.le_refl _, fun _ _ => rfl⟩
  clear h1 h2 hn
  go_enter Ybaf.func11, Ybaf.ntmps11
  go_wp2
  go_loopw [13, 5] (fun s13 _ wr => ∃ k q : Nat, k ≤ n ∧ s13 = .int .i64 k ∧ wr = w.drewN q) (fun s13 _ _ => n - (intOf s13).toNat)
  case atStart => exact ⟨0, 0, Nat.zero_le _, rfl, rfl⟩
  case round =>
    obtain ⟨k, q, hk, rfl, rfl⟩ := hrel
    by_cases hlt : k < n
    · have hlt' : (k : Int) < (n : Int) := by omega
      have d1 := H.out.1 k (by have := H.out.2.2; omega)
      have d2 := H.out.2.1 k (by have := H.out.2.2; omega)
      generalize ss.getD k ByteArray.empty = s at d1 d2
      go_wp2
      go_quiet (fail)
      go_wp2
      go_roundw
      case rel => exact ⟨k + 1, _, by omega, by go_num, rfl⟩
      case measure => simp [intOf]; omega
    · obtain rfl : k = n := by omega
      go_wp2
      go_ret
      exact ⟨rfl, BW.out _⟩

set_option maxHeartbeats 800000 in
theorem cok_any (ao : Option Addr) (g n c : Nat) (ss : List ByteArray) (w : World) (hn : ss.length = n) (hn2 : n ≤ 100000) (hao : 0 < n → ao = some ⟨g, 0, none⟩) (h1 : RowS w g 0 ss) (hsz : ∀ j, j < n → (ss.getD j ByteArray.empty).size ≤ 1000) :
    Calls Ybaf.prog 9 #[.slice ao n c] w fun e w' => e = .returned (.bool (okB ss)) ∧ w' = w := by
  by_cases h0 : n = 0
  · subst h0
    have E : Hid (okB ss = false) := by
      show _ = _
      rw [List.eq_nil_of_length_eq_zero hn]
      rfl
    clear hn hao h1 hsz
    go_enter Ybaf.func9, Ybaf.ntmps9
    go_wp2
    go_ret
    exact ⟨by rw [E.out]; rfl, rfl⟩
  · obtain rfl := hao (by omega)
    have H : Hid (RowS w g 0 ss ∧ ss.length = n ∧ (∀ j, j < n → (ss.getD j ByteArray.empty).size ≤ 1000)) := ⟨h1, hn, hsz⟩
    have hpos : (0 : Int) < (n : Int) := by omega
    have hne : ((n : Int) == 0) = false := beq_eq_false_iff_ne.2 (by omega)
    have c0 := H.out.1 0 (by have := H.out.2.1; omega)
    have s0 := hsz 0 (by omega)
    have OH : Hid (okHead (ss.getD 0 ByteArray.empty) = false → okB ss = false) := okB_head ss (by omega)
    have OT : Hid (okHead (ss.getD 0 ByteArray.empty) = true → (∀ j, 1 ≤ j → j < ss.length → locB (ss.getD j ByteArray.empty) = true) → okB ss = true) := okB_of ss (by omega)
    clear h1 hn hsz hao
    generalize ss.getD 0 ByteArray.empty = s at c0 s0 OH OT
    by_cases h8 : s.size = 8
    · have h8' : ((s.size : Int) != 8) = false := by rw [h8]; rfl
      have h6s : 6 < s.size := by omega
      have e6 : s.data.toList.getD 6 0 = s[6]'h6s := by
        rw [List.getD_eq_getElem?_getD, List.getElem?_eq_getElem (by rw [Array.length_toList]; exact h6s)]
        rfl
      have EH : Hid (okHead s = (isLetB (s.extract 0 4) && isDigB (s.extract 4 8) && decide ((s[6]'h6s).toNat < 54))) := by
        show _ = _
        unfold okHead
        rw [decide_eq_true h8, e6, Bool.true_and]
      clear e6
      go_enter Ybaf.func9, Ybaf.ntmps9
      go_wp2_with fail
      refine (cletters_any _ (by unfold maxLen; simp; omega) w).mono ?_
      rintro e w1 ⟨rfl, rfl⟩
      cases hl : isLetB (s.extract 0 4) with
      | false =>
        have E : Hid (okB ss = false) := OH.out (by rw [EH.out, hl]; rfl)
        clear hl
        go_wp2
        go_ret
        exact ⟨by rw [E.out]; rfl, rfl⟩
      | true =>
        go_wp2_with fail
        refine (cdigits_any _ (by unfold maxLen; simp; omega) _).mono ?_
        rintro e w1 ⟨rfl, rfl⟩
        cases hd : isDigB (s.extract 4 8) with
        | false =>
          have E : Hid (okB ss = false) := OH.out (by rw [EH.out, hl, hd]; rfl)
          clear hl hd
          go_wp2
          go_ret
          exact ⟨by rw [E.out]; rfl, rfl⟩
        | true =>
          by_cases h54 : (s[6]'h6s).toNat < 54
          · have OK : Hid (okHead s = true) := by show _ = _; rw [EH.out, hl, hd, decide_eq_true h54]; rfl
            have h54' : decide ((54 : Int) ≤ ((s[6]'h6s).toNat : Int)) = false := decide_eq_false (by omega)
            clear hl hd
            go_wp2
            go_loop [4] (fun s4 => ∃ k : Nat, 1 ≤ k ∧ k ≤ n ∧ s4 = .int .i64 k ∧ Hid (∀ j, 1 ≤ j → j < k → locB (ss.getD j ByteArray.empty) = true)) (fun s4 => n - (intOf s4).toNat)
            case atStart => exact ⟨1, by omega, by omega, rfl, fun j _ _ => by omega⟩
            case round =>
              obtain ⟨k, hk1, hk, rfl, HD⟩ := hrel
              by_cases hlt : k < n
              · have hlt' : (k : Int) < (n : Int) := by omega
                have ck := H.out.1 k (by have := H.out.2.1; omega)
                have sk := H.out.2.2 k hlt
                have OTL : Hid (locB (ss.getD k ByteArray.empty) = false → okB ss = false) := okB_tail ss k hk1 (by have := H.out.2.1; omega)
                have HD2 : Hid (locB (ss.getD k ByteArray.empty) = true → ∀ j, 1 ≤ j → j < k + 1 → locB (ss.getD j ByteArray.empty) = true) := fun h j hj1 hj2 => by
                  by_cases e : j = k
                  · subst e; exact h
                  · exact HD.out j hj1 (by omega)
                rw [Nat.zero_add] at ck
                generalize ss.getD k ByteArray.empty = t at ck sk OTL HD2
                by_cases h4 : t.size = 4
                · have h4' : ((t.size : Int) != 4) = false := by rw [h4]; rfl
                  go_wp2_with fail
                  refine (cletters_any _ (by unfold maxLen; omega) _).mono ?_
                  rintro e w1 ⟨rfl, rfl⟩
                  cases hlk : isLetB t with
                  | false =>
                    have E : Hid (okB ss = false) := OTL.out (by unfold locB; rw [hlk, Bool.and_false])
                    clear hlk
                    go_wp2
                    go_ret
                    exact ⟨by rw [E.out]; rfl, rfl⟩
                  | true =>
                    have HD3 : Hid (∀ j, 1 ≤ j → j < k + 1 → locB (ss.getD j ByteArray.empty) = true) := HD2.out (by unfold locB; rw [hlk, decide_eq_true h4]; rfl)
                    clear hlk
                    go_wp2
                    go_round
                    case rel => exact ⟨k + 1, by omega, by omega, by go_num, HD3⟩
                    case measure => simp [intOf]; omega
                · have h4' : ((t.size : Int) != 4) = true := by rw [bne_iff_ne]; omega
                  have h4'' : (t.size != 4) = true := by rw [bne_iff_ne]; omega
                  have E : Hid (okB ss = false) := OTL.out (by unfold locB; rw [decide_eq_false h4]; rfl)
                  go_wp2
                  go_ret
                  exact ⟨by rw [E.out]; rfl, rfl⟩
              · obtain rfl : k = n := by omega
                have E : Hid (okB ss = true) := OT.out OK.out (fun j hj1 hj2 => HD.out j hj1 (by have := H.out.2.1; omega))
                go_wp2
                go_ret
                exact ⟨by rw [E.out]; rfl, rfl⟩
          · have E : Hid (okB ss = false) := OH.out (by rw [EH.out, hl, hd, decide_eq_false h54]; rfl)
            have h54' : (54 : Int) ≤ ((s[6]'h6s).toNat : Int) := by omega
            clear hl hd
            go_wp2
            go_ret
            exact ⟨by rw [E.out]; rfl, rfl⟩
    · have h8' : ((s.size : Int) != 8) = true := by rw [bne_iff_ne]; omega
      have h8'' : (s.size != 8) = true := by rw [bne_iff_ne]; omega
      have E : Hid (okB ss = false) := OH.out (by unfold okHead; rw [decide_eq_false h8]; rfl)
      go_enter Ybaf.func9, Ybaf.ntmps9
      go_wp2
      go_ret
      exact ⟨by rw [E.out]; rfl, rfl⟩
end Go.Proofs.YbulkdefyFmt
