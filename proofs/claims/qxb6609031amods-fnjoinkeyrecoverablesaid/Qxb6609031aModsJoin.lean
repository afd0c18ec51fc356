/-
  THE CONTRACTS OF 'join' AND OF THE SIZE GUARDS, over this seat's translation. Shared by both laws of the seat.
-/
import Derived.Test.Qxb6609031aModsRows
import Derived.WalkKit
import Derived.WalkSpells
import Derived.RowKit3
namespace Go.Proofs.Qxb6609031aMods
open Go.RowKit

/-- What 'join' computes. -/
def joinB (p k : ByteArray) : ByteArray := if p.toList.isEmpty = true then k else p ++ ByteArray.mk #[46] ++ k

theorem join_empty {p : ByteArray} (k : ByteArray) (h : p.toList.isEmpty = true) : joinB p k = k := by unfold joinB; rw [if_pos h]
theorem join_more {p : ByteArray} (k : ByteArray) (h : p.toList.isEmpty = false) : joinB p k = p ++ ByteArray.mk #[46] ++ k := by
  unfold joinB; rw [if_neg (by rw [h]; exact Bool.false_ne_true)]

theorem join_size (p k : ByteArray) : (joinB p k).size ≤ p.size + 1 + k.size := by
  unfold joinB
  split
  · omega
  · rw [ByteArray.size_append', ByteArray.size_append', ByteArray.size_mk']; exact Nat.le_refl _

theorem empty_append (p k : ByteArray) (h : p.toList.isEmpty = false) : (p ++ k).toList.isEmpty = false := by
  rw [ByteArray.toList_eq] at h ⊢
  rw [ByteArray.data_append, Array.toList_append]
  cases e : p.data.toList with
  | nil => rw [e] at h; cases h
  | cons x xs => rfl

/-! ### THE PLAIN LAW OF 'FnJoinAssociativeDotted': no Go in sight -/
theorem assoc_left (a b c : ByteArray) (h : b.toList.isEmpty = false) : joinB (joinB a b) c = joinB a (joinB b c) := by
  cases ha : a.toList.isEmpty
  · have h1 : (a ++ ByteArray.mk #[46] ++ b).toList.isEmpty = false := empty_append _ _ (empty_append _ _ ha)
    rw [join_more b ha, join_more c h1, join_more c h, join_more _ ha]
    simp only [ByteArray.append_assoc]
  · rw [join_empty b ha, join_empty _ ha]
theorem assoc_want_empty (a b c : ByteArray) (ha : a.toList.isEmpty = true) (h : b.toList.isEmpty = false) : joinB (joinB a b) c = b ++ ByteArray.mk #[46] ++ c := by
  rw [join_empty b ha, join_more c h]
theorem assoc_want_more (a b c : ByteArray) (ha : a.toList.isEmpty = false) (h : b.toList.isEmpty = false) : joinB (joinB a b) c = a ++ ByteArray.mk #[46] ++ (b ++ ByteArray.mk #[46] ++ c) := by
  rw [assoc_left a b c h, join_more c h, join_more _ ha]

/-- 'pkg/plan.ZZjoin', and 'join' in it. -/
theorem zzjoin_any (p k : ByteArray) (hp : p.size ≤ 8388608) (hk : k.size ≤ 8388608) (w : World) :
    Calls Trym.prog 6 #[.string p, .string k] w fun e w' => e = .returned (.string (joinB p k)) ∧ w' = w := by
  cases h : p.toList.isEmpty
  · rw [join_more k h]
    go_enter Trym.func6, Trym.ntmps6
    go_wp2
    go_ret
    exact ⟨rfl, rfl⟩
  · rw [join_empty k h]
    go_enter Trym.func6, Trym.ntmps6
    go_wp2
    go_ret
    exact ⟨rfl, rfl⟩

/-- The guard on the lengths, three strings: it answers, and turns nothing. -/
theorem bytes3_any (a b c : ByteArray) (ha : a.size ≤ maxLen) (hb : b.size ≤ maxLen) (hc : c.size ≤ maxLen) (w : World) :
    Calls Trym.prog 5 #[.string a, .string b, .string c] w fun e w' => (∃ r : Bool, e = .returned (.bool r)) ∧ w' = w := by
  unfold maxLen at ha hb hc
  go_enter Trym.func5, Trym.ntmps5
  go_wp2
  all_goals
    go_ret
    exact ⟨⟨_, rfl⟩, rfl⟩

/-- The guard on the lengths, four strings. -/
theorem bytes4_any (a b c d : ByteArray) (ha : a.size ≤ maxLen) (hb : b.size ≤ maxLen) (hc : c.size ≤ maxLen) (hd : d.size ≤ maxLen) (w : World) :
    Calls Trym.prog 7 #[.string a, .string b, .string c, .string d] w fun e w' => (∃ r : Bool, e = .returned (.bool r)) ∧ w' = w := by
  unfold maxLen at ha hb hc hd
  go_enter Trym.func7, Trym.ntmps7
  go_wp2
  all_goals
    go_ret
    exact ⟨⟨_, rfl⟩, rfl⟩

end Go.Proofs.Qxb6609031aMods
