/-
  THE CONTRACTS OF 'zzHasDot' AND 'zzLastDot', AND THE PLAIN LAW OF 'FnJoinKeyRecoverable': splitting at the last dot.
-/
import Derived.Test.Qxb6609031aModsJoin
namespace Go.Proofs.Qxb6609031aMods
open Go.RowKit

/-! ### PLAIN: bytes, dots, the last dot -/
def hasDot (l : List UInt8) : Bool := l.any (· == 46)

theorem hasDot_snoc (l : List UInt8) (c : UInt8) : hasDot (l ++ [c]) = (hasDot l || c == 46) := by
  unfold hasDot; simp
theorem hasDot_take (l : List UInt8) (k : Nat) (h : hasDot (l.take k) = true) : hasDot l = true := by
  unfold hasDot at *
  rw [List.any_eq_true] at *
  obtain ⟨x, hx, h2⟩ := h
  exact ⟨x, List.mem_of_mem_take hx, h2⟩
theorem take_snoc (s : ByteArray) (k : Nat) (h : k < s.size) : s.data.toList.take (k + 1) = s.data.toList.take k ++ [s[k]] := by
  rw [List.take_succ_eq_append_getElem (by simpa using h)]; rfl
theorem byte46 (c : UInt8) : (c == 46) = decide ((c.toNat : Int) = 46) := by
  rw [Bool.eq_iff_iff]; simp [← UInt8.toNat_inj]; omega

theorem ret_bool {a b : Bool} (h : a = b) : Ending.returned (.bool a) = .returned (.bool b) := by rw [h]

/-- 'zzHasDot'. -/
theorem hasDot_any (s : ByteArray) (hs : s.size ≤ maxLen) (w : World) :
    Calls Trym.prog 8 #[.string s] w fun e w' => e = .returned (.bool (hasDot s.data.toList)) ∧ w' = w := by
  unfold maxLen at hs
  go_enter Trym.func8, Trym.ntmps8
  go_wp2
  go_loop [3] (fun i => ∃ k : Nat, k ≤ s.size ∧ i = .int .i64 k ∧ Hid (hasDot (s.data.toList.take k) = false)) (fun i => s.size - (intOf i).toNat)
  case atStart => exact ⟨0, Nat.zero_le _, rfl, rfl⟩
  case round =>
    obtain ⟨k, hk, rfl, hd⟩ := hrel
    by_cases hlt : k < s.size
    · have HS : Hid (hasDot (s.data.toList.take (k + 1)) = (hasDot (s.data.toList.take k) || decide ((s[k].toNat : Int) = 46))) := by unfold Hid; rw [take_snoc s k hlt, hasDot_snoc, byte46]
      by_cases hc : (s[k].toNat : Int) = 46
      · go_wp2
        go_ret
        exact ⟨ret_bool (hasDot_take _ (k + 1) (by rw [HS.out]; simp [hc])).symm, rfl⟩
      · go_wp2
        go_round
        case rel => exact ⟨k + 1, by omega, by go_num, by unfold Hid; rw [HS.out, hd.out]; simp [hc]⟩
        case measure => simp [intOf]; omega
    · go_wp2
      go_ret
      exact ⟨ret_bool (by rw [← hd.out, List.take_of_length_le (by simp; omega)]), rfl⟩

theorem ret_int {k : IntKind} {a b : Int} (h : a = b) : Ending.returned (.int k a) = .returned (.int k b) := by rw [h]

/-- 'zzLastDot', where the last dot is known: it stands at m, and none behind it. -/
theorem lastDot_at (s : ByteArray) (m : Nat) (hs : s.size ≤ maxLen) (hm : m < s.size) (h46 : (s[m].toNat : Int) = 46) (ha : Hid (∀ i (h : i < s.size), m < i → ¬ (s[i].toNat : Int) = 46)) (w : World) :
    Calls Trym.prog 9 #[.string s] w fun e w' => e = .returned (.int .i64 m) ∧ w' = w := by
  unfold maxLen at hs
  have H46 : Hid ((s[m].toNat : Int) = 46) := h46
  clear h46
  go_enter Trym.func9, Trym.ntmps9
  go_wp2
  go_loop [3] (fun i => ∃ k : Nat, m ≤ k ∧ k < s.size ∧ i = .int .i64 k) (fun i => (intOf i).toNat)
  case atStart => exact ⟨s.size - 1, by omega, by omega, by go_num⟩
  case round =>
    obtain ⟨k, hk, hlt, rfl⟩ := hrel
    by_cases hc : k = m
    · subst hc
      have h46 := H46.out
      go_wp2
      go_ret
      exact ⟨rfl, rfl⟩
    · have hne := ha.out k hlt (by omega)
      go_wp2
      go_round
      case rel => exact ⟨k - 1, by omega, by omega, by go_num⟩
      case measure => simp [intOf]; omega

end Go.Proofs.Qxb6609031aMods
