/-
  THE PLAIN LAW OF 'FnJoinKeyRecoverable': a path joined with a key that has no dot comes apart at the last dot, one way alone. No Go in sight.
-/
import Derived.Test.Qxb6609031aModsDots
namespace Go.Proofs.Qxb6609031aMods
open Go.RowKit

/-! ### Lists of bytes -/
theorem hasDot_false {l : List UInt8} (h : hasDot l = false) : ¬ (46 : UInt8) ∈ l := by
  intro hm
  have : hasDot l = true := by unfold hasDot; rw [List.any_eq_true]; exact ⟨46, hm, rfl⟩
  rw [h] at this; cases this

def joinL (p k : List UInt8) : List UInt8 := if p = [] then k else p ++ 46 :: k

theorem split_one {p k p2 k2 : List UInt8} (hk : ¬ (46 : UInt8) ∈ k) (hk2 : ¬ (46 : UInt8) ∈ k2) (h : p ++ 46 :: k = p2 ++ 46 :: k2) : p = p2 ∧ k = k2 := by
  rcases List.append_eq_append_iff.mp h with ⟨cs, h1, h2⟩ | ⟨bs, h1, h2⟩
  · cases cs with
    | nil => simp at h1 h2; exact ⟨h1.symm, h2⟩
    | cons x xs =>
      simp only [List.cons_append, List.cons.injEq] at h2
      exact absurd (by rw [h2.2]; simp) hk
  · cases bs with
    | nil => simp at h1 h2; exact ⟨h1, h2.symm⟩
    | cons x xs =>
      simp only [List.cons_append, List.cons.injEq] at h2
      exact absurd (by rw [h2.2]; simp) hk2

theorem joinL_inj {p k p2 k2 : List UInt8} (hk : ¬ (46 : UInt8) ∈ k) (hk2 : ¬ (46 : UInt8) ∈ k2) (h : joinL p k = joinL p2 k2) : p = p2 ∧ k = k2 := by
  unfold joinL at h
  by_cases e : p = [] <;> by_cases e2 : p2 = []
  · rw [if_pos e, if_pos e2] at h; exact ⟨by rw [e, e2], h⟩
  · rw [if_pos e, if_neg e2] at h; exact absurd (by rw [h]; simp) hk
  · rw [if_neg e, if_pos e2] at h; exact absurd (by rw [← h]; simp) hk2
  · rw [if_neg e, if_neg e2] at h; exact split_one hk hk2 h

/-! ### The strings of the walk -/
theorem join_list (p k : ByteArray) : (joinB p k).toList = joinL p.toList k.toList := by
  unfold joinB joinL
  by_cases h : p.toList = []
  · rw [if_pos (by rw [h]; rfl), if_pos h]
  · rw [if_neg (by rw [List.isEmpty_iff]; exact h), if_neg h]
    simp only [ByteArray.toList_eq, ByteArray.data_append, Array.toList_append]
    simp

theorem same_iff (a k a2 k2 : ByteArray) (hk : hasDot k.data.toList = false) (hk2 : hasDot k2.data.toList = false) :
    ((joinB a k).toList == (joinB a2 k2).toList) = ((a.toList == a2.toList) && (k.toList == k2.toList)) := by
  rw [Bool.eq_iff_iff]
  simp only [beq_iff_eq, Bool.and_eq_true]
  rw [join_list, join_list]
  constructor
  · exact joinL_inj (by rw [ByteArray.toList_eq]; exact hasDot_false hk) (by rw [ByteArray.toList_eq]; exact hasDot_false hk2)
  · rintro ⟨h1, h2⟩; rw [h1, h2]

theorem at_data (s : ByteArray) (i : Nat) (h : i < s.size) : s.data.toList[i]? = some s[i] := by
  rw [List.getElem?_eq_getElem (by simpa using h)]; rfl

theorem more_data (a k : ByteArray) (h : a.toList.isEmpty = false) : (joinB a k).data.toList = a.data.toList ++ 46 :: k.data.toList := by
  rw [join_more k h]
  simp only [ByteArray.data_append, Array.toList_append]
  simp

theorem more_size (a k : ByteArray) (h : a.toList.isEmpty = false) : (joinB a k).size = a.size + 1 + k.size := by
  rw [join_more k h, ByteArray.size_append', ByteArray.size_append', ByteArray.size_mk']; rfl

theorem dot_at (a k : ByteArray) (h : a.toList.isEmpty = false) (hm : a.size < (joinB a k).size) : ((joinB a k)[a.size].toNat : Int) = 46 := by
  have e := at_data (joinB a k) a.size hm
  rw [more_data a k h, List.getElem?_append_right (by simp), show a.size - a.data.toList.length = 0 from by simp, List.getElem?_cons_zero] at e
  injection e with e
  rw [← e]; rfl

theorem dot_none (a k : ByteArray) (h : a.toList.isEmpty = false) (hk : hasDot k.data.toList = false) (i : Nat) (hi : i < (joinB a k).size) (hlt : a.size < i) : ¬ ((joinB a k)[i].toNat : Int) = 46 := by
  intro hc
  have e := at_data (joinB a k) i hi
  have hl : a.data.toList.length = a.size := by simp
  obtain ⟨m, rfl⟩ : ∃ m, i = a.size + 1 + m := ⟨i - a.size - 1, by omega⟩
  rw [more_data a k h, List.getElem?_append_right (by omega), hl, show a.size + 1 + m - a.size = m + 1 from by omega, List.getElem?_cons_succ] at e
  have hm := List.mem_of_getElem? e
  have h46 : (joinB a k)[a.size + 1 + m] = 46 := by
    rw [← UInt8.toNat_inj]; have : (46 : UInt8).toNat = 46 := rfl; omega
  rw [h46] at hm
  exact hasDot_false hk hm

theorem extract_list (s : ByteArray) (i j : Nat) : (s.extract i j).toList = (s.data.toList.drop i).take (j - i) := by
  rw [ByteArray.toList_eq, ByteArray.data_extract, Array.toList_extract, List.extract_eq_take_drop]

theorem head_back (a k : ByteArray) (h : a.toList.isEmpty = false) : ((joinB a k).extract 0 a.size).toList = a.toList := by
  have hl : a.data.toList.length = a.size := by simp
  rw [extract_list, more_data a k h, ByteArray.toList_eq, List.drop_zero, Nat.sub_zero, ← hl, List.take_left]

theorem tail_back (a k : ByteArray) (h : a.toList.isEmpty = false) (n : Nat) (hn : (joinB a k).size ≤ n) : ((joinB a k).extract (a.size + 1) n).toList = k.toList := by
  have hl : a.data.toList.length = a.size := by simp
  have hk : k.data.toList.length = k.size := by simp
  have hz := more_size a k h
  rw [extract_list, more_data a k h, ByteArray.toList_eq, List.drop_append, hl, show a.size + 1 - a.size = 1 from by omega, List.drop_of_length_le (by omega), List.nil_append]
  show List.take _ k.data.toList = _
  rw [List.take_of_length_le (by omega)]

end Go.Proofs.Qxb6609031aMods
