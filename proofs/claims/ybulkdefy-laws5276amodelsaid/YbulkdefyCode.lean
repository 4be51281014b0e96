/-
  OWN WORK. codeLength, over what the table holds at the string's first byte.
-/
import Derived.Test.YbulkdefyDig
import Derived.Maps.OwnOps
import Derived.Maps.Views
namespace Go.Proofs.Ybulkdefy
open Go.RowKit Go.Maps

theorem law5 : Keyed Yba.prog 5 := int_keyed Yba.underlying5
theorem zero3 (w : World) : (zeroValue 3).run Yba.prog w = .ok (.int .i64 0) w := by kernel_rfl

/-- Block B is a map of at most n entries that holds T b at each byte b (0 where there is none). -/
def IsTab (w : World) (B n : Nat) (T : Int → Int) : Prop :=
  ∃ D : DataW Unit, IsMap D ∧ w.ownsMap Yba.prog 5 (plainElem Yba.prog 3) B n D ∧ ∀ b, 0 ≤ b → b ≤ 255 → D.atKey (.int .u8 b) (.lit (.int .i64 0)) = .lit (.int .i64 (T b))

theorem wf_u8 (b : Int) (h0 : 0 ≤ b) (h1 : b ≤ 255) : (Lit.int .u8 b).wf = true := by
  have e1 : IntKind.u8.min = 0 := by decide
  have e2 : IntKind.u8.max = 255 := by decide
  simp [Lit.wf, e1, e2, h0, h1]

theorem IsTab.look {w : World} {B n : Nat} {T : Int → Int} (h : IsTab w B n T) (b : Int) (h0 : 0 ≤ b) (h1 : b ≤ 255) : (Instr.lookup 23 (.map (some B)) (.int .u8 b) false).run Yba.prog w = .ok (.int .i64 (T b)) w := by
  obtain ⟨D, _, hown, hT⟩ := h
  obtain ⟨c, hrun, hat, _⟩ := hown.lookup_int law5 Yba.underlying23 Yba.underlying3 (zero3 w) (keyOf_int_mk Yba.underlying5 (wf_u8 b h0 h1))
  rw [hT b h0 h1] at hat
  simp at hat
  rw [hat]
  exact hrun

theorem IsTab.store {w : World} {B n : Nat} {T : Int → Int} (h : IsTab w B n T) (hn : n < maxLen) (b v : Int) (h0 : 0 ≤ b) (h1 : b ≤ 255) (hv : (Lit.int .i64 v).wf = true) :
    ∃ w', (Instr.mapUpdate 23 (.map (some B)) (.int .u8 b) (.int .i64 v)).run Yba.prog w = .ok () w' ∧ IsTab w' B (n + 1) (fun x => if x = b then v else T x) ∧ w.grownBy w' (some B) := by
  obtain ⟨D, hm, hown, hT⟩ := h
  obtain ⟨w', hrun, hown', hg⟩ := hown.update law5 Yba.underlying23 hn (keyOf_int_mk Yba.underlying5 (wf_u8 b h0 h1)) (plainElem_int (H := Unit) Yba.underlying3 hv)
  refine ⟨w', hrun, ⟨_, hm.put _ _, hown', fun x x0 x1 => ?_⟩, hg⟩
  show (D.put (.int .u8 b) (.lit (.int .i64 v))).atKey (.int .u8 x) (.lit (.int .i64 0)) = .lit (.int .i64 (if x = b then v else T x))
  by_cases e : x = b
  · subst e
    rw [if_pos rfl]
    exact atKey_put_same hm (by simp [WideAt.IsKeyLit]) _ _
  · rw [if_neg e, atKey_put_other (by simp [e]), hT x x0 x1]

theorem IsTab.made (w : World) : IsTab (w.alloc (.map #[] 0)) w.heap.size 0 (fun _ => 0) :=
  ⟨.map [], isMap_empty, World.ownsMap_made _ _ _ _, fun _ _ _ => rfl⟩

theorem IsTab.kept {w w' : World} {B n : Nat} {T : Int → Int} (h : IsTab w B n T) (hk : B < w.heap.size → w'.heap[B]? = w.heap[B]?) : IsTab w' B n T := by
  obtain ⟨D, hm, hown, hT⟩ := h
  have hlt := hown.lt
  obtain ⟨es, clock, hb, F, hs, hD⟩ := hown
  exact ⟨D, hm, ⟨es, clock, (hk hlt).trans hb, F, hs, hD⟩, hT⟩

theorem IsTab.lt {w : World} {B n : Nat} {T : Int → Int} (h : IsTab w B n T) : B < w.heap.size := by
  obtain ⟨D, hm, hown, hT⟩ := h; exact hown.lt

/-- The code's length by the number of digits n that the table gives. -/
def codeLen (s : ByteArray) (n : Nat) : Int :=
  if 1 + n ≤ s.size ∧ isDigB (s.extract 1 (1 + n)) = true then 1 + (n : Int) else 0

theorem code_empty (s : ByteArray) (h0 : s.size = 0) (tv : Value) (w : World) :
    Calls Yba.prog 5 #[.string s, tv] w fun e w' => e = .returned (.int .i64 0) ∧ Below w.heap.size w w' := by
  obtain ⟨⟨l⟩⟩ := s
  obtain rfl : l = [] := List.eq_nil_of_length_eq_zero h0
  go_enter Yba.func5, Yba.ntmps5
  go_wp2
  go_ret
  exact ⟨rfl, Below.refl _ _⟩

theorem toList_ne (s : ByteArray) (h0 : 0 < s.size) : s.toList.isEmpty = false := by
  rw [List.isEmpty_eq_false_iff]
  intro h
  have : s.data.toList = [] := by rw [← Lib.toList_data]; exact h
  have h2 : s.data.size = 0 := by rw [← Array.length_toList, this]; rfl
  have h3 : s.size = 0 := h2
  omega

set_option maxHeartbeats 400000 in
theorem code_any (s : ByteArray) (h0 : 0 < s.size) (hs : s.size ≤ maxLen) (tv : Value) (n : Nat) (hn : n ≤ 1000) (w : World)
    (hlk : (Instr.lookup 23 tv (.int .u8 ((s[0]'h0).toNat : Int)) false).run Yba.prog w = .ok (.int .i64 (n : Int)) w) :
    Calls Yba.prog 5 #[.string s, tv] w fun e w' => e = .returned (.int .i64 (codeLen s n)) ∧ Below w.heap.size w w' := by
  unfold maxLen at hs
  have hne := toList_ne s h0
  have h0' : (0 : Int) < (s.size : Int) := by omega
  by_cases hsh : s.size < 1 + n
  · have E : Hid (codeLen s n = 0) := by show _ = _; unfold codeLen; rw [if_neg (by omega)]
    have hsh' : (s.size : Int) < 1 + (n : Int) := by omega
    go_enter Yba.func5, Yba.ntmps5
    go_wp2
    go_ret
    exact ⟨by rw [E.out]; rfl, Below.refl _ _⟩
  · have hsh' : ¬ (s.size : Int) < 1 + (n : Int) := by omega
    have hsh2 : decide ((s.size : Int) < 1 + (n : Int)) = false := decide_eq_false hsh'
    go_enter Yba.func5, Yba.ntmps5
    go_wp2_with fail
    refine (isDigits_any _ w).mono ?_
    rintro e w' ⟨rfl, hb⟩
    have H : Hid (Below w.heap.size w w') := hb
    clear hb
    cases hd : isDigB (s.extract 1 (1 + n)) with
    | true =>
      have E : Hid (codeLen s n = 1 + (n : Int)) := by show _ = _; unfold codeLen; rw [if_pos ⟨by omega, hd⟩]
      clear hd
      go_wp2
      go_ret
      exact ⟨by rw [E.out]; rfl, H.out⟩
    | false =>
      have E : Hid (codeLen s n = 0) := by show _ = _; unfold codeLen; rw [if_neg (fun h => by rw [hd] at h; exact absurd h.2 (by decide))]
      clear hd
      go_wp2
      go_ret
      exact ⟨by rw [E.out]; rfl, H.out⟩
end Go.Proofs.Ybulkdefy
