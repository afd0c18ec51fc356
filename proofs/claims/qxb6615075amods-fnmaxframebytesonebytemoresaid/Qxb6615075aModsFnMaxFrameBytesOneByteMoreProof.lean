/-
  THE PROOF OF 'Rows.FnMaxFrameBytesOneByteMoreSaid': the frame is the guide's (written by program); the walk and the plain law are ours.
-/
import Derived.Test.Qxb6615075aModsRows
import Derived.WalkKit
import Derived.ProofKit
import Derived.OpenShut
import Derived.ShutString
import Derived.Test.Qxb6615075aModsFrame
namespace Go.Proofs.Qxb6615075aMods.fnMaxFrameBytesOneByteMore
open Go.ChangeShapes Go.WideShapes Go.ChangeAt Go.RowKit
open Go.ChangeMaps (open_string shut_string)
set_option linter.unusedVariables false      -- a walk need not use every 'w<i>' (that an integer argument fits its kind)

theorem own : ownKnob Trym.prog.godebug = none := by kernel_rfl

/-! ### STEP 1: THE WALK: the Go text returns true -/
/-- Nothing at all: one byte more is one byte more. -/
theorem walk_zero (w : World) :
    Calls Trym.prog 4 #[.int .u64 0] w fun e w' => e = .returned (.bool true) ∧ Grown w w' := by
  have f1 := (frame_bounds 0 (by omega) (by omega)).1
  have f2 := (frame_bounds 0 (by omega) (by omega)).2
  have g1 : frame 0 ≤ frame 1 := by decide
  have g2 : frame 1 ≤ 4616189618054758400 := by decide
  have e1 : (frame 1 - frame 0 == 1) = true := by decide
  go_enter Trym.func4, Trym.ntmps4
  go_wp2_with fail
  refine (frame_any 0 (by omega) (by omega) _).mono ?_
  rintro e w' ⟨rfl, rfl⟩
  go_wp2_with fail
  refine (frame_any 1 (by omega) (by omega) _).mono ?_
  rintro e w' ⟨rfl, rfl⟩
  go_wp2_with fail
  refine (covers_frame 0 (by omega) (by omega) _).mono ?_
  rintro e w' ⟨rfl, rfl⟩
  go_wp2_with fail
  go_ret
  exact ⟨rfl, Grown.refl _⟩

/-- Whole blocks: one byte more begins a new block. -/
theorem walk_whole (a0 : Int) (h0 : 1 ≤ a0) (h1 : a0 ≤ 4611686018427387904) (hm : a0 % 131072 = 0) (w : World) :
    Calls Trym.prog 4 #[.int .u64 a0] w fun e w' => e = .returned (.bool true) ∧ Grown w w' := by
  have f1 := (frame_bounds a0 (by omega) h1).1
  have f2 := (frame_bounds a0 (by omega) h1).2
  have en := frame_next_whole a0 h0 hm
  have g1 : frame a0 ≤ frame (a0 + 1) := by omega
  have g2 : frame (a0 + 1) ≤ 4616189618054758465 := by omega
  have e1 : (frame (a0 + 1) - frame a0 == 65) = true := by rw [beq_iff_eq]; omega
  have m1 : (a0 % 131072 == 0) = true := by rw [beq_iff_eq]; exact hm
  clear en hm
  go_enter Trym.func4, Trym.ntmps4
  go_wp2_with fail
  refine (frame_any a0 (by omega) (by omega) _).mono ?_
  rintro e w' ⟨rfl, rfl⟩
  go_wp2_with fail
  refine (frame_any (a0 + 1) (by omega) (by omega) _).mono ?_
  rintro e w' ⟨rfl, rfl⟩
  go_wp2_with fail
  refine (covers_frame a0 (by omega) h1 _).mono ?_
  rintro e w' ⟨rfl, rfl⟩
  go_wp2_with fail
  go_ret
  exact ⟨rfl, Grown.refl _⟩

/-- A last block in part: one byte more fits it. -/
theorem walk_part (a0 : Int) (h0 : 1 ≤ a0) (h1 : a0 ≤ 4611686018427387904) (hm : ¬ a0 % 131072 = 0) (w : World) :
    Calls Trym.prog 4 #[.int .u64 a0] w fun e w' => e = .returned (.bool true) ∧ Grown w w' := by
  have f1 := (frame_bounds a0 (by omega) h1).1
  have f2 := (frame_bounds a0 (by omega) h1).2
  have en := frame_next_part a0 h0 hm
  have g1 : frame a0 ≤ frame (a0 + 1) := by omega
  have g2 : frame (a0 + 1) ≤ 4616189618054758465 := by omega
  have e1 : (frame (a0 + 1) - frame a0 == 1) = true := by rw [beq_iff_eq]; omega
  have m1 : (a0 % 131072 == 0) = false := by rw [beq_eq_false_iff_ne]; exact hm
  clear en hm
  go_enter Trym.func4, Trym.ntmps4
  go_wp2_with fail
  refine (frame_any a0 (by omega) (by omega) _).mono ?_
  rintro e w' ⟨rfl, rfl⟩
  go_wp2_with fail
  refine (frame_any (a0 + 1) (by omega) (by omega) _).mono ?_
  rintro e w' ⟨rfl, rfl⟩
  go_wp2_with fail
  refine (covers_frame a0 (by omega) h1 _).mono ?_
  rintro e w' ⟨rfl, rfl⟩
  go_wp2_with fail
  go_ret
  exact ⟨rfl, Grown.refl _⟩

/-- Past 2^62 the law says nothing. -/
theorem walk_out (a0 : Int) (c : 4611686018427387904 < a0) (w : World) :
    Calls Trym.prog 4 #[.int .u64 a0] w fun e w' => e = .returned (.bool true) ∧ Grown w w' := by
  go_enter Trym.func4, Trym.ntmps4
  go_wp2_with fail
  go_ret
  exact ⟨rfl, Grown.refl _⟩

theorem walk (a0 : Int) (w0 : (Lit.int .u64 a0).wf = true) (w : World) :
    Calls Trym.prog 4 #[.int .u64 a0] w fun e w' => e = .returned (.bool true) ∧ Grown w w' := by
  have b0 := (bounds_u64 w0).1
  by_cases c : 4611686018427387904 < a0
  · exact walk_out a0 c w
  · by_cases z : a0 = 0
    · subst z
      exact walk_zero w
    · by_cases hm : a0 % 131072 = 0
      · exact walk_whole a0 (by omega) (by omega) hm w
      · exact walk_part a0 (by omega) (by omega) hm w

/-! ### THE ROW's STEP: WRITTEN OUT: LEAVE IT -/
set_option maxRecDepth 100000 in
theorem lifted (os : Os) (started : os.Started) (H : Type) (enc : TypeId × Value → H) :
    ReturnsInHanded {} Trym.checked os 4 .any (Rows.fnMaxFrameBytesOneByteMoreSpec.pre6 enc Trym.prog Trym.f4 Rows.fnMaxFrameBytesOneByteMoreRow.domain false) (Rows.fnMaxFrameBytesOneByteMoreSpec.post enc Trym.prog Trym.f4 false true false false) := by
  refine returnsInHanded_of_change (C := Trym.checked) own started (by kernel_rfl) Trym.func4
    (ChangeSpec.witness6 (enc := enc) (C := Trym.checked) false ⟨#[], #[.int .u64 0], []⟩ 8 (by kernel_rfl) (by kernel_rfl) (by kernel_rfl) (by kernel_rfl)) ?_
  intro W base args ds gs before hval0 hW hcnd _
  have hval : ∀ (j : Nat) t v, Trym.f4.params[j]? = some t → args[j]? = some v → Value.okWide Trym.prog W .any base t v := hval0
  have hW' := hW
  obtain ⟨p, q, hA0, hV, rfl, hfz, hnd⟩ := hW
  have hA : DataW.TrodAll enc Trym.prog W 0 (fun _ => true) true Trym.f4.params.toList args.toList ds p := hA0
  rw [Trym.params4] at hA hval
  obtain ⟨v0, vs0, d0, ds0, p0, q0, hargs, rfl, rfl, h0, r0⟩ := trodAll_cons hA
  obtain ⟨rfl, rfl, rfl⟩ := trodAll_nil r0
  obtain rfl : args = #[v0] := by cases args; simp_all
  obtain ⟨rfl, rfl⟩ := trodVars_none hV
  obtain ⟨a0, rfl, rfl, rfl, w0⟩ := open_int Trym.underlying22 (hval 0 22 v0 rfl rfl) h0
  clear hA0 hval0
  simp only [List.append_nil] at hW'
  refine (walk a0 w0 W).mono fun e W' ⟨he, hg⟩ => ?_
  subst he
  exact ⟨_, rfl, post_of_same (pa := []) (pv := []) hW' (fun _ _ _ => (trodAll_cons_mk (shut_bool Trym.underlying4 _) trodAll_mk0)) (fun sp _ => (trodAll_cons_mk (shut_int Trym.underlying22 w0) trodAll_mk0)) (fun _ _ => rfl) rfl
    (hg.frame _) hg.2.1 (ok_one (by kernel_rfl) rfl (okWide_bool_mk Trym.underlying4 _))⟩

theorem over : Rows.fnMaxFrameBytesOneByteMoreRow.holds Trym.pinned (OpenSpec.ofChange Rows.fnMaxFrameBytesOneByteMoreSpec) :=
  OpenClaim.holds_of_wide 4 Trym.f4 rfl rfl rfl rfl rfl rfl rfl ⟨rfl, rfl, rfl, rfl, rfl⟩ rfl rfl rfl rfl rfl (by kernel_rfl) Trym.func4 (by kernel_rfl)
    (of_decide_eq_true (by kernel_rfl)) (by unfold Func.isWrapper; first | (rw [if_pos (by decide +kernel)]; kernel_rfl) | (rw [if_neg (by decide +kernel)]; exact ⟨rfl, rfl⟩))
    (fun os started H enc _ => lifted os started H enc)

/-- ████ THE STATEMENT ████ -/
theorem proved : Rows.FnMaxFrameBytesOneByteMoreSaid :=
  over
end Go.Proofs.Qxb6615075aMods.fnMaxFrameBytesOneByteMore

namespace Go.Proofs.Qxb6615075aMods
theorem fnMaxFrameBytesOneByteMore_proved : Rows.FnMaxFrameBytesOneByteMoreSaid := fnMaxFrameBytesOneByteMore.proved
end Go.Proofs.Qxb6615075aMods
