/-
  OWN WORK. The plain law: strings.Fields of words set apart by spaces gives the words.
-/
import Derived.Lib.Fields
import Derived.Test.YbulkdefyFmtRead
namespace Go.Proofs.YbulkdefyFmt
open Go.Lib

/-- Spaces alone. -/
def Spaces (l : List UInt8) : Prop := ∀ b ∈ l, isSp b = true

theorem solid_not_sp {b : UInt8} (h : 33 ≤ b.toNat ∧ b.toNat < 128) : isSp b = false := by
  have h1 : b ≠ 32 := fun e => by subst e; exact absurd h.1 (by decide)
  have h2 : b ≠ 9 := fun e => by subst e; exact absurd h.1 (by decide)
  have h3 : b ≠ 10 := fun e => by subst e; exact absurd h.1 (by decide)
  have h4 : b ≠ 11 := fun e => by subst e; exact absurd h.1 (by decide)
  have h5 : b ≠ 12 := fun e => by subst e; exact absurd h.1 (by decide)
  have h6 : b ≠ 13 := fun e => by subst e; exact absurd h.1 (by decide)
  simp [isSp, h1, h2, h3, h4, h5, h6]

theorem fg_spaces : ∀ (sp r : List UInt8), Spaces sp → fieldsGo [] (sp ++ r) = fieldsGo [] r
  | [], _, _ => rfl
  | b :: sp, r, h => by
    have hb : isSp b = true := h b (by simp)
    rw [List.cons_append, fieldsGo, if_pos hb]
    exact fg_spaces sp r fun x hx => h x (by simp [hx])

theorem fg_cut (cur sp r : List UInt8) (hc : cur ≠ []) (h : Spaces sp) (h0 : sp ≠ []) : fieldsGo cur (sp ++ r) = cur :: fieldsGo [] r := by
  match sp, h0 with
  | b :: sp, _ =>
    have hb : isSp b = true := h b (by simp)
    have hce : cur.isEmpty = false := by rw [List.isEmpty_eq_false_iff]; exact hc
    rw [List.cons_append, fieldsGo, if_pos hb, if_neg (by rw [hce]; decide)]
    rw [fg_spaces sp r fun x hx => h x (by simp [hx])]

theorem fg_word : ∀ (v cur r : List UInt8), Solid v → fieldsGo cur (v ++ r) = fieldsGo (cur ++ v) r
  | [], cur, r, _ => by simp
  | b :: v, cur, r, h => by
    have hb : isSp b = false := solid_not_sp (h b (by simp))
    rw [List.cons_append, fieldsGo, if_neg (by rw [hb]; decide), fg_word v (cur ++ [b]) r fun x hx => h x (by simp [hx])]
    simp

theorem fg_end (cur sp : List UInt8) (hc : cur ≠ []) (h : Spaces sp) : fieldsGo cur sp = [cur] := by
  by_cases h0 : sp = []
  · subst h0
    have hce : cur.isEmpty = false := by rw [List.isEmpty_eq_false_iff]; exact hc
    simp [fieldsGo, hce]
  · have := fg_cut cur sp [] hc h h0
    rw [List.append_nil] at this
    rw [this]
    rfl

theorem sepOf_facts (i : Nat) : Spaces (sepOf i) ∧ sepOf i ≠ [] ∧ (sepOf i).length ≤ 3 ∧ ∀ b ∈ sepOf i, b.toNat < 128 := by
  have hr : i % 4 = 0 ∨ i % 4 = 1 ∨ i % 4 = 2 ∨ i % 4 = 3 := by omega
  unfold sepOf Spaces
  rcases hr with h | h | h | h <;> rw [h] <;> decide

/-- What the builder holds behind the first k words. -/
def bufAt (sep : Nat) (pre : List UInt8) (ws : List (List UInt8)) : Nat → List UInt8
  | 0 => pre
  | k + 1 => (bufAt sep pre ws k ++ (if k = 0 then [] else sepOf (sep + k))) ++ ws.getD k []

theorem bufAt_len (sep : Nat) (pre : List UInt8) (ws : List (List UInt8)) (hp : pre.length ≤ 3) (hl : ∀ k, (ws.getD k []).length ≤ 9) : ∀ k, (bufAt sep pre ws k).length ≤ 3 + 12 * k
  | 0 => by unfold bufAt; omega
  | k + 1 => by
    have ih := bufAt_len sep pre ws hp hl k
    have h1 := hl k
    have h2 := (sepOf_facts (sep + k)).2.2.1
    unfold bufAt
    rw [List.length_append, List.length_append]
    by_cases hk0 : k = 0
    · rw [if_pos hk0, List.length_nil]; omega
    · rw [if_neg hk0]; omega

theorem bufAt_ascii (sep : Nat) (pre : List UInt8) (ws : List (List UInt8)) (hp : ∀ b ∈ pre, b.toNat < 128) (hl : ∀ k, Solid (ws.getD k [])) : ∀ k, ∀ b ∈ bufAt sep pre ws k, b.toNat < 128
  | 0 => hp
  | k + 1 => by
    intro b hb
    unfold bufAt at hb
    rw [List.mem_append, List.mem_append] at hb
    rcases hb with (h | h) | h
    · exact bufAt_ascii sep pre ws hp hl k b h
    · split at h
      · simp at h
      · exact (sepOf_facts (sep + k)).2.2.2 b h
    · exact (hl k b h).2

theorem fields_step (sep : Nat) (pre : List UInt8) (ws : List (List UInt8)) (hp : Spaces pre) (hl : ∀ k, k < ws.length → Solid (ws.getD k []) ∧ ws.getD k [] ≠ []) :
    ∀ k r, k < ws.length → fieldsGo [] (bufAt sep pre ws (k + 1) ++ r) = ws.take k ++ fieldsGo (ws.getD k []) r
  | 0, r, h0 => by
    have e : bufAt sep pre ws 1 ++ r = pre ++ (ws.getD 0 [] ++ r) := by simp [bufAt]
    rw [e, fg_spaces _ _ hp, fg_word _ _ _ (hl 0 h0).1]
    simp
  | k + 1, r, hk => by
    have e : bufAt sep pre ws (k + 1 + 1) ++ r = bufAt sep pre ws (k + 1) ++ (sepOf (sep + (k + 1)) ++ (ws.getD (k + 1) [] ++ r)) := by
      rw [bufAt, if_neg (by omega)]
      simp
    rw [e, fields_step sep pre ws hp hl k _ (by omega), fg_cut _ _ _ (hl k (by omega)).2 (sepOf_facts _).1 (sepOf_facts _).2.1, fg_word _ _ _ (hl (k + 1) hk).1]
    have e2 : ws.take (k + 1) = ws.take k ++ [ws.getD k []] := by
      rw [List.take_add_one]
      have : k < ws.length := by omega
      simp [List.getD_eq_getElem?_getD, this]
    rw [e2]
    simp

theorem fields_built (sep : Nat) (pre post : List UInt8) (ws : List (List UInt8)) (hp : Spaces pre) (hq : Spaces post) (hl : ∀ k, k < ws.length → Solid (ws.getD k []) ∧ ws.getD k [] ≠ []) :
    fields (bufAt sep pre ws ws.length ++ post) = ws := by
  unfold fields
  by_cases h0 : ws = []
  · subst h0
    show fieldsGo [] (pre ++ post) = []
    rw [fg_spaces _ _ hp]
    have := fg_spaces post [] hq
    rw [List.append_nil] at this
    rw [this]
    rfl
  · have hlen : 0 < ws.length := List.length_pos_iff.2 h0
    obtain ⟨k, hk⟩ : ∃ k, ws.length = k + 1 := ⟨ws.length - 1, by omega⟩
    rw [hk, fields_step sep pre ws hp hl k post (by omega), fg_end _ _ (hl k (by omega)).2 hq]
    have hkl : k < ws.length := by omega
    have e2 : ws.take (k + 1) = ws.take k ++ [ws.getD k []] := by
      rw [List.take_add_one]
      simp [List.getD_eq_getElem?_getD, hkl]
    rw [← e2, ← hk, List.take_length]
end Go.Proofs.YbulkdefyFmt
