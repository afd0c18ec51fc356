/-
  THE CONTRACTS OF 'ZZmaxFrameBytes' AND 'coversLeast', over this seat's translation. Shared by both laws of the seat.
-/
import Derived.Test.Qxb6615075aModsRows
import Derived.WalkKit
import Derived.WalkSpells
import Derived.RowKit3
namespace Go.Proofs.Qxb6615075aMods
open Go.RowKit
set_option linter.unusedVariables false

/-- How many blocks of 128 KiB: at least one. -/
def blocks (s : Int) : Int := if s = 0 then 1 else (s + 131071) / 131072
/-- What 'maxFrameBytes' computes. -/
def frame (s : Int) : Int := s + 64 * blocks s

theorem blocks_zero : blocks 0 = 1 := rfl
theorem blocks_more {s : Int} (h : 1 ≤ s) : blocks s = (s + 131071) / 131072 := by unfold blocks; rw [if_neg (by omega)]

theorem ret_int {k : IntKind} {a b : Int} (h : a = b) : Ending.returned (.int k a) = .returned (.int k b) := by rw [h]

theorem ret_true {b : Bool} (h : b = true) : Ending.returned (.bool b) = .returned (.bool true) := by rw [h]

/-- 'ZZmaxFrameBytes', up to 2^62 + 2^47. -/
theorem frame_any (s : Int) (h0 : 0 ≤ s) (h1 : s ≤ 4611826755915743232) (w : World) :
    Calls Trym.prog 10 #[.int .u64 s] w fun e w' => e = .returned (.int .u64 (frame s)) ∧ w' = w := by
  by_cases hz : s = 0
  · subst hz
    go_enter Trym.func10, Trym.ntmps10
    go_wp2
    go_ret
    exact ⟨rfl, rfl⟩
  · have hp : 1 ≤ s := by omega
    have hm : 1 ≤ (s + 131071) / 131072 := by omega
    have hx : (s + 131071) / 131072 ≤ 35185445863424 := by omega
    go_enter Trym.func10, Trym.ntmps10
    go_wp2
    all_goals
      go_ret
      exact ⟨ret_int (by unfold frame; rw [blocks_more hp]; omega), rfl⟩

/-- 'coversLeast', where it says yes: r blocks hold the bytes, and r - 1 do not. -/
theorem covers_yes (s r : Int) (h0 : 0 ≤ s) (h1 : s ≤ 4611686018427387904) (r1 : 1 ≤ r) (r2 : r ≤ 70368744177664) (hr : s ≤ r * 131072) (hl : r = 1 ∨ (r - 1) * 131072 < s) (w : World) :
    Calls Trym.prog 11 #[.int .u64 s, .int .u64 (s + 64 * r)] w fun e w' => e = .returned (.bool true) ∧ w' = w := by
  go_enter Trym.func11, Trym.ntmps11
  go_wp2
  all_goals
    go_ret
    refine ⟨?_, rfl⟩
    first
      | rfl
      | exact ret_true (by rw [Bool.or_eq_true]; exact .inr (decide_eq_true (by omega)))

/-! ### PLAIN: the least count of blocks; no Go in sight -/
theorem blocks_bounds (s : Int) (h0 : 0 ≤ s) (h1 : s ≤ 4611686018427387904) : 1 ≤ blocks s ∧ blocks s ≤ 70368744177664 ∧ s ≤ blocks s * 131072 ∧ (blocks s = 1 ∨ (blocks s - 1) * 131072 < s) := by
  unfold blocks
  split <;> omega
theorem frame_bounds (s : Int) (h0 : 0 ≤ s) (h1 : s ≤ 4611686018427387904) : s + 64 ≤ frame s ∧ frame s ≤ 4616189618054758400 := by
  have h := blocks_bounds s h0 h1
  unfold frame
  omega
theorem frame_add (s j : Int) (h0 : 1 ≤ s) (hj : 0 ≤ j) : frame (s + j * 131072) = frame s + j * 131136 := by
  unfold frame
  rw [blocks_more (s := s) h0, blocks_more (s := s + j * 131072) (by omega)]
  omega
theorem frame_next_zero : frame (0 + 1) = frame 0 + 1 := by decide
theorem frame_next_whole (s : Int) (h0 : 1 ≤ s) (h : s % 131072 = 0) : frame (s + 1) = frame s + 65 := by
  unfold frame
  rw [blocks_more (s := s) h0, blocks_more (s := s + 1) (by omega)]
  omega
theorem frame_next_part (s : Int) (h0 : 1 ≤ s) (h : ¬ s % 131072 = 0) : frame (s + 1) = frame s + 1 := by
  unfold frame
  rw [blocks_more (s := s) h0, blocks_more (s := s + 1) (by omega)]
  omega

/-- 'coversLeast' of a size and its frame. -/
theorem covers_frame (s : Int) (h0 : 0 ≤ s) (h1 : s ≤ 4611686018427387904) (w : World) :
    Calls Trym.prog 11 #[.int .u64 s, .int .u64 (frame s)] w fun e w' => e = .returned (.bool true) ∧ w' = w := by
  have h := blocks_bounds s h0 h1
  exact covers_yes s (blocks s) h0 h1 h.1 h.2.1 h.2.2.1 h.2.2.2 w

end Go.Proofs.Qxb6615075aMods
