/-
  OWN WORK. The plain law: the code's length of 'a letter, digits, a slash, a tail'.
-/
import Derived.Test.YbulkdefyCode
import Derived.Laws.BytesArg
namespace Go.Proofs.Ybulkdefy
open Go.RowKit

def dg (zs : List Int) : List Int := zs.map fun d => 48 + d % 10

def isDigL (l : List UInt8) : Bool := !l.isEmpty && l.all fun c => decide (48 ≤ c.toNat) && decide (c.toNat ≤ 57)

theorem codeLen_list (s : ByteArray) (c : UInt8) (l : List UInt8) (hs : s.data.toList = c :: l) (n : Nat) :
    codeLen s n = if n ≤ l.length ∧ isDigL (l.take n) = true then 1 + (n : Int) else 0 := by
  have hsz : s.size = l.length + 1 := by
    have : s.data.toList.length = l.length + 1 := by rw [hs]; rfl
    rw [Array.length_toList] at this
    exact this
  have e : isDigB (s.extract 1 (1 + n)) = isDigL (l.take n) := by
    unfold isDigB isDigL
    have h1 : (s.extract 1 (1 + n)).data.toList = l.take n := by
      rw [Lib.extract_data, hs]
      simp
    rw [h1]
  unfold codeLen
  rw [e, hsz]
  by_cases h : n ≤ l.length ∧ isDigL (l.take n) = true
  · rw [if_pos h, if_pos ⟨by omega, h.2⟩]
  · rw [if_neg h, if_neg (fun h' => h ⟨by omega, h'.2⟩)]

theorem digL_prefix (ds : List UInt8) (hd : ∀ c ∈ ds, 48 ≤ c.toNat ∧ c.toNat ≤ 57) (r : List UInt8) (n : Nat) (hn : n ≤ (ds ++ 47 :: r).length) : isDigL ((ds ++ 47 :: r).take n) = decide (1 ≤ n ∧ n ≤ ds.length) := by
  unfold isDigL
  by_cases h : 1 ≤ n ∧ n ≤ ds.length
  · rw [decide_eq_true h, List.take_append_of_le_length h.2, Bool.and_eq_true]
    refine ⟨?_, ?_⟩
    · rw [Bool.not_eq_true', List.isEmpty_eq_false_iff]
      intro e
      have := congrArg List.length e
      rw [List.length_take] at this
      simp only [List.length_nil] at this
      omega
    · rw [List.all_eq_true]
      intro c hc
      have := hd c (List.mem_of_mem_take hc)
      simp [this]
  · rw [decide_eq_false h]
    by_cases h0 : n = 0
    · subst h0; simp
    · have hlt : ds.length < n := by omega
      rw [Bool.and_eq_false_iff]
      right
      rw [← Bool.not_eq_true, List.all_eq_true]
      intro hall
      have hm : (47 : UInt8) ∈ (ds ++ 47 :: r).take n := by
        rw [List.mem_take_iff_getElem]
        refine ⟨ds.length, by omega, ?_⟩
        simp
      have := hall 47 hm
      simp at this

theorem built_codeLen (c : Int) (zs : List Int) (k : Nat) (hk : k ≤ zs.length) (tl : ByteArray) (n : Nat) (S : ByteArray) (hS : strOfNums (c :: dg (zs.take k) ++ [47]) = S) :
    codeLen (S ++ tl) n = if 1 ≤ n ∧ n ≤ k then 1 + (n : Int) else 0 := by
  have hdata : (S ++ tl).data.toList = UInt8.ofNat c.toNat :: ((dg (zs.take k)).map (fun n => UInt8.ofNat n.toNat) ++ 47 :: tl.data.toList) := by
    rw [← hS]
    rw [ByteArray.data_append, Array.toList_append, strOfNums_data]
    simp
  rw [codeLen_list _ _ _ hdata]
  have hlen : ((dg (zs.take k)).map (fun n => UInt8.ofNat n.toNat)).length = k := by simp [dg]; omega
  have hd : ∀ x ∈ (dg (zs.take k)).map (fun n => UInt8.ofNat n.toNat), 48 ≤ x.toNat ∧ x.toNat ≤ 57 := by
    intro x hx
    rw [List.mem_map] at hx
    obtain ⟨y, hy, rfl⟩ := hx
    unfold dg at hy
    rw [List.mem_map] at hy
    obtain ⟨d, _, rfl⟩ := hy
    have h1 : (48 + d % 10).toNat ≤ 57 := by omega
    have h2 : 48 ≤ (48 + d % 10).toNat := by omega
    rw [UInt8.toNat_ofNat']
    omega
  by_cases hn : n ≤ ((dg (zs.take k)).map (fun n => UInt8.ofNat n.toNat) ++ 47 :: tl.data.toList).length
  · rw [digL_prefix _ hd _ _ hn, hlen]
    by_cases h : 1 ≤ n ∧ n ≤ k
    · rw [if_pos h, if_pos ⟨hn, decide_eq_true h⟩]
    · rw [if_neg h, if_neg (fun h' => h (of_decide_eq_true h'.2))]
  · rw [if_neg (fun h => hn h.1), if_neg (fun h => ?_)]
    simp only [List.length_append, hlen, List.length_cons] at hn
    omega

theorem built_head (c : Int) (h0 : 0 ≤ c) (h1 : c ≤ 255) (zs : List Int) (k : Nat) (tl : ByteArray) (S : ByteArray) (hS : strOfNums (c :: dg (zs.take k) ++ [47]) = S) :
    ∃ h : 0 < (S ++ tl).size, (((S ++ tl)[0]'h).toNat : Int) = c := by
  have hdata : (S ++ tl).data.toList = UInt8.ofNat c.toNat :: ((dg (zs.take k)).map (fun n => UInt8.ofNat n.toNat) ++ 47 :: tl.data.toList) := by
    rw [← hS, ByteArray.data_append, Array.toList_append, strOfNums_data]
    simp
  have hsz : 0 < (S ++ tl).size := by
    have : (S ++ tl).data.toList.length ≠ 0 := by rw [hdata]; simp
    rw [Array.length_toList] at this
    have e : (S ++ tl).size = (S ++ tl).data.size := rfl
    omega
  refine ⟨hsz, ?_⟩
  have : (S ++ tl).data.toList[0]? = some (UInt8.ofNat c.toNat) := by rw [hdata]; rfl
  rw [Array.getElem?_toList] at this
  have h3 : (S ++ tl).data[0]? = some ((S ++ tl).data[0]'hsz) := Array.getElem?_eq_getElem _
  rw [h3] at this
  have h2 : (S ++ tl)[0]'hsz = UInt8.ofNat c.toNat := Option.some.inj this
  rw [h2, UInt8.toNat_ofNat']
  omega

/-- codeLength at such a string. -/
theorem code_built (c : Int) (h0 : 0 ≤ c) (h1 : c ≤ 255) (zs : List Int) (k : Nat) (hk : k ≤ zs.length) (hk2 : k ≤ 1024) (tl : ByteArray) (htl : tl.size ≤ 1024) (S : ByteArray) (hS : strOfNums (c :: dg (zs.take k) ++ [47]) = S)
    (B m : Nat) (T : Int → Int) (n : Nat) (hn : n ≤ 7) (hT : T c = n) (w : World) (tab : IsTab w B m T) :
    Calls Yba.prog 5 #[.string (S ++ tl), .map (some B)] w fun e w' => e = .returned (.int .i64 (if 1 ≤ n ∧ n ≤ k then 1 + (n : Int) else 0)) ∧ Below w.heap.size w w' := by
  obtain ⟨hsz, hhd⟩ := built_head c h0 h1 zs k tl S hS
  rw [← built_codeLen c zs k hk tl n S hS]
  refine code_any (S ++ tl) hsz ?_ _ n (by omega) w ?_
  · have e : S.size = k + 2 := by rw [← hS, strOfNums_size]; simp [dg]; omega
    rw [ByteArray.size_append, e]
    unfold maxLen
    omega
  · rw [hhd, tab.look c h0 h1, hT]

end Go.Proofs.Ybulkdefy
