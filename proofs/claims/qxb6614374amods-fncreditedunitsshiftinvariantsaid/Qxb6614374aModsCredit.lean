/-
  THE CONTRACTS OF 'zzResult', 'CreditedUnits' AND OF THE SIZE GUARDS, over this seat's translation. Shared by both laws of the seat.
-/
import Derived.Test.Qxb6614374aModsRows
import Derived.WalkKit
import Derived.WalkSpells
import Derived.RowKit3
namespace Go.Proofs.Qxb6614374aMods
open Go.RowKit

/-- 'zzResult': the struct out of its four fields; one new block. -/
theorem result_any (p : ByteArray) (f t : Int) (q : ByteArray) (w : World) :
    Calls Trym.prog 6 #[.string p, .int .i64 f, .int .i64 t, .string q] w fun e w' =>
      e = .returned (.agg #[.string p, .int .i64 f, .int .i64 t, .string q]) ∧ ∃ c : Array Value, w' = w.alloc (.cells c 24) := by
  go_enter Trym.func6, Trym.ntmps6
  go_wp2
  simp [bodyPost, results, Trym.results6, go_sem]
  exact ⟨_, rfl⟩

/-- 'MatchResult.CreditedUnits': final less tax; one new block (the receiver's own). -/
theorem credited_any (p : ByteArray) (f t : Int) (q : ByteArray) (w : World) :
    Calls Trym.prog 7 #[.agg #[.string p, .int .i64 f, .int .i64 t, .string q]] w fun e w' =>
      e = .returned (.int .i64 (wrap64 (f - t))) ∧ ∃ c : Array Value, w' = w.alloc (.cells c 24) := by
  go_enter Trym.func7, Trym.ntmps7
  go_wp2
  go_ret
  exact ⟨rfl, _, rfl⟩

/-- The guards on the lengths: they answer, and turn nothing. -/
theorem bytes5_any (a b : ByteArray) (x y z : Int) (ha : a.size ≤ maxLen) (hb : b.size ≤ maxLen) (w : World) :
    Calls Trym.prog 5 #[.string a, .int .i64 x, .int .i64 y, .string b, .int .i64 z] w fun e w' => (∃ r : Bool, e = .returned (.bool r)) ∧ w' = w := by
  unfold maxLen at ha hb
  go_enter Trym.func5, Trym.ntmps5
  go_wp2
  all_goals
    go_ret
    exact ⟨⟨_, rfl⟩, rfl⟩
theorem bytes8_any (a b : ByteArray) (x y z : Int) (ha : a.size ≤ maxLen) (hb : b.size ≤ maxLen) (w : World) :
    Calls Trym.prog 8 #[.string a, .int .i64 x, .int .i64 y, .string b, .int .i64 z] w fun e w' => (∃ r : Bool, e = .returned (.bool r)) ∧ w' = w := by
  unfold maxLen at ha hb
  go_enter Trym.func8, Trym.ntmps8
  go_wp2
  all_goals
    go_ret
    exact ⟨⟨_, rfl⟩, rfl⟩

end Go.Proofs.Qxb6614374aMods
