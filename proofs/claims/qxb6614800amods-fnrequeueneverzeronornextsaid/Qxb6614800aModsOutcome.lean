/-
  THE CONTRACTS OF 'Next', 'ZZrequeue', 'ZZoutcome' AND OF THE SIZE GUARDS, over this seat's translation. Shared by both laws of the seat.
-/
import Derived.Test.Qxb6614800aModsRows
import Derived.WalkKit
import Derived.WalkSpells
import Derived.RowKit3
import Derived.BigQuiet
import Derived.Deep.QuietTactic
namespace Go.Proofs.Qxb6614800aMods
open Go.RowKit

theorem grown_drewN {W w' : World} (h : Grown W w') (n : Nat) : Grown W (w'.drewN n) := h

/-- 'Next': the struct out of its fields; one new block. -/
theorem next_any (n r m : ByteArray) (w : World) :
    Calls Trym.prog 8 #[.string n, .string r, .string m] w fun e w' =>
      e = .returned (.agg #[.string n, .bool false, .int .i64 0, .string r, .string m]) ∧ ∃ c : Array Value, w' = w.alloc (.cells c 25) := by
  go_enter Trym.func8, Trym.ntmps8
  go_wp2
  simp [bodyPost, results, Trym.results8, go_sem]
  exact ⟨_, rfl⟩

/-- 'Requeue'. -/
theorem requeue_own (a : Int) (r m : ByteArray) (w : World) :
    Calls Trym.prog 14 #[.int .i64 a, .string r, .string m] w fun e w' =>
      e = .returned (.agg #[.string ⟨#[]⟩, .bool true, .int .i64 a, .string r, .string m]) ∧ ∃ c : Array Value, w' = w.alloc (.cells c 25) := by
  go_enter Trym.func14, Trym.ntmps14
  go_wp2
  simp [bodyPost, results, Trym.results14, go_sem]
  exact ⟨_, rfl⟩

/-- 'ZZrequeue': two new blocks. -/
theorem requeue_any (a : Int) (r m : ByteArray) (w : World) :
    Calls Trym.prog 10 #[.int .i64 a, .string r, .string m] w fun e w' =>
      e = .returned (.agg #[.string ⟨#[]⟩, .bool true, .int .i64 a, .string r, .string m]) ∧ ∃ c d : Array Value, w' = (w.alloc (.cells c 25)).alloc (.cells d 25) := by
  go_enter Trym.func10, Trym.ntmps10
  go_wp2_with fail
  refine (requeue_own a r m _).mono ?_
  rintro e w' ⟨rfl, c, rfl⟩
  go_wp2
  simp [bodyPost, results, Trym.results10, go_sem]
  exact ⟨_, _, rfl⟩

/-- 'ZZoutcome': the five fields; one new block (the parameter's own), and draws. -/
theorem outcome_any (n : ByteArray) (b : Bool) (a : Int) (r m : ByteArray) (w : World) :
    Calls Trym.prog 11 #[.agg #[.string n, .bool b, .int .i64 a, .string r, .string m]] w fun e w' =>
      e = .returned (.tuple #[.string n, .bool b, .int .i64 a, .string r, .string m]) ∧ ∃ (c : Array Value) (k : Nat), w' = (w.alloc (.cells c 25)).drewN k := by
  go_enter Trym.func11, Trym.ntmps11
  go_wp2
  go_quiet (fail)
  go_wp2
  exact bodyPost_ret (v := .tuple #[.string n, .bool b, .int .i64 a, .string r, .string m]) (by simp [results, Trym.results11, go_sem]) rfl ⟨rfl, _, _, rfl⟩

/-- The guards on the lengths: they answer, and turn nothing. -/
theorem bytes9_any (a b c : ByteArray) (x : Int) (ha : a.size ≤ maxLen) (hb : b.size ≤ maxLen) (hc : c.size ≤ maxLen) (w : World) :
    Calls Trym.prog 9 #[.string a, .string b, .string c, .int .i64 x] w fun e w' => (∃ r : Bool, e = .returned (.bool r)) ∧ w' = w := by
  unfold maxLen at ha hb hc
  go_enter Trym.func9, Trym.ntmps9
  go_wp2
  all_goals
    go_ret
    exact ⟨⟨_, rfl⟩, rfl⟩
theorem bytes13_any (x : Int) (a b c d f : ByteArray) (ha : a.size ≤ maxLen) (hb : b.size ≤ maxLen) (hc : c.size ≤ maxLen) (hd : d.size ≤ maxLen) (hf : f.size ≤ maxLen) (w : World) :
    Calls Trym.prog 13 #[.int .i64 x, .string a, .string b, .string c, .string d, .string f] w fun e w' => (∃ r : Bool, e = .returned (.bool r)) ∧ w' = w := by
  unfold maxLen at ha hb hc hd hf
  go_enter Trym.func13, Trym.ntmps13
  go_wp2
  all_goals
    go_ret
    exact ⟨⟨_, rfl⟩, rfl⟩

end Go.Proofs.Qxb6614800aMods
