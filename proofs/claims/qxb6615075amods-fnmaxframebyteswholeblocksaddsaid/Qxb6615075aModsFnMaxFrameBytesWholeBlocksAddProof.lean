/-
  THE PROOF OF 'Rows.FnMaxFrameBytesWholeBlocksAddSaid': the frame is the guide's (written by program); the walk and the plain law are ours.
-/
import Derived.Test.Qxb6615075aModsRows
import Derived.WalkKit
import Derived.ProofKit
import Derived.OpenShut
import Derived.ShutString
import Derived.Test.Qxb6615075aModsFrame
namespace Go.Proofs.Qxb6615075aMods.fnMaxFrameBytesWholeBlocksAdd
open Go.ChangeShapes Go.WideShapes Go.ChangeAt Go.RowKit
open Go.ChangeMaps (open_string shut_string)
set_option linter.unusedVariables false      -- a walk need not use every 'w<i>' (that an integer argument fits its kind)

theorem own : ownKnob Trym.prog.godebug = none := by kernel_rfl

/-! ### STEP 1: THE WALK: the Go text returns true -/
theorem walk_in (a0 : Int) (a1 : Int) (h0 : 1 ≤ a0) (h1 : a0 ≤ 4611686018427387904) (j0 : 0 ≤ a1) (j1 : a1 ≤ 1073741824) (w : World) :
    Calls Trym.prog 3 #[.int .u64 a0, .int .u64 a1] w fun e w' => e = .returned (.bool true) ∧ Grown w w' := by
  have f1 := (frame_bounds a0 (by omega) h1).1
  have f2 := (frame_bounds a0 (by omega) h1).2
  have e1 : (frame (a0 + a1 * 131072) == frame a0 + a1 * 131136) = true := by rw [frame_add a0 a1 h0 j0]; exact beq_self_eq_true _
  go_enter Trym.func3, Trym.ntmps3
  go_wp2_with fail
  refine (frame_any a0 (by omega) (by omega) _).mono ?_
  rintro e w' ⟨rfl, rfl⟩
  go_wp2_with fail
  refine (frame_any (a0 + a1 * 131072) (by omega) (by omega) _).mono ?_
  rintro e w' ⟨rfl, rfl⟩
  go_wp2_with fail
  refine (covers_frame a0 (by omega) h1 _).mono ?_
  rintro e w' ⟨rfl, rfl⟩
  go_wp2_with fail
  go_ret
  exact ⟨rfl, Grown.refl _⟩

/-- The ways out ahead of the calls. -/
theorem walk_out (a0 : Int) (a1 : Int) (h0 : 0 ≤ a0) (j0 : 0 ≤ a1) (c : a0 = 0 ∨ 4611686018427387904 < a0 ∨ 1073741824 < a1) (w : World) :
    Calls Trym.prog 3 #[.int .u64 a0, .int .u64 a1] w fun e w' => e = .returned (.bool true) ∧ Grown w w' := by
  by_cases c1 : 4611686018427387904 < a0
  · clear c
    go_enter Trym.func3, Trym.ntmps3
    go_wp2_with fail
    go_ret
    exact ⟨rfl, Grown.refl _⟩
  · by_cases c2 : 1073741824 < a1
    · clear c
      go_enter Trym.func3, Trym.ntmps3
      go_wp2_with fail
      go_ret
      exact ⟨rfl, Grown.refl _⟩
    · obtain rfl : a0 = 0 := by omega
      clear c
      go_enter Trym.func3, Trym.ntmps3
      go_wp2_with fail
      go_ret
      exact ⟨rfl, Grown.refl _⟩

theorem walk (a0 : Int) (a1 : Int) (w0 : (Lit.int .u64 a0).wf = true) (w1 : (Lit.int .u64 a1).wf = true) (w : World) :
    Calls Trym.prog 3 #[.int .u64 a0, .int .u64 a1] w fun e w' => e = .returned (.bool true) ∧ Grown w w' := by
  have b0 := bounds_u64 w0
  have b1 := bounds_u64 w1
  by_cases c : a0 = 0 ∨ 4611686018427387904 < a0 ∨ 1073741824 < a1
  · exact walk_out a0 a1 b0.1 b1.1 c w
  · exact walk_in a0 a1 (by omega) (by omega) b1.1 (by omega) w

/-! ### THE ROW's STEP: WRITTEN OUT: LEAVE IT -/
set_option maxRecDepth 100000 in
theorem lifted (os : Os) (started : os.Started) (H : Type) (enc : TypeId × Value → H) :
    ReturnsInHanded {} Trym.checked os 3 .any (Rows.fnMaxFrameBytesWholeBlocksAddSpec.pre6 enc Trym.prog Trym.f3 Rows.fnMaxFrameBytesWholeBlocksAddRow.domain false) (Rows.fnMaxFrameBytesWholeBlocksAddSpec.post enc Trym.prog Trym.f3 false true false false) := by
  refine returnsInHanded_of_change (C := Trym.checked) own started (by kernel_rfl) Trym.func3
    (ChangeSpec.witness6 (enc := enc) (C := Trym.checked) false ⟨#[], #[.int .u64 0, .int .u64 0], []⟩ 8 (by kernel_rfl) (by kernel_rfl) (by kernel_rfl) (by kernel_rfl)) ?_
  intro W base args ds gs before hval0 hW hcnd _
  have hval : ∀ (j : Nat) t v, Trym.f3.params[j]? = some t → args[j]? = some v → Value.okWide Trym.prog W .any base t v := hval0
  have hW' := hW
  obtain ⟨p, q, hA0, hV, rfl, hfz, hnd⟩ := hW
  have hA : DataW.TrodAll enc Trym.prog W 0 (fun _ => true) true Trym.f3.params.toList args.toList ds p := hA0
  rw [Trym.params3] at hA hval
  obtain ⟨v0, vs0, d0, ds0, p0, q0, hargs, rfl, rfl, h0, r0⟩ := trodAll_cons hA
  obtain ⟨v1, vs1, d1, ds1, p1, q1, rfl, rfl, rfl, h1, r1⟩ := trodAll_cons r0
  obtain ⟨rfl, rfl, rfl⟩ := trodAll_nil r1
  obtain rfl : args = #[v0, v1] := by cases args; simp_all
  obtain ⟨rfl, rfl⟩ := trodVars_none hV
  obtain ⟨a0, rfl, rfl, rfl, w0⟩ := open_int Trym.underlying22 (hval 0 22 v0 rfl rfl) h0
  obtain ⟨a1, rfl, rfl, rfl, w1⟩ := open_int Trym.underlying22 (hval 1 22 v1 rfl rfl) h1
  clear hA0 hval0
  simp only [List.append_nil] at hW'
  refine (walk a0 a1 w0 w1 W).mono fun e W' ⟨he, hg⟩ => ?_
  subst he
  exact ⟨_, rfl, post_of_same (pa := []) (pv := []) hW' (fun _ _ _ => (trodAll_cons_mk (shut_bool Trym.underlying4 _) trodAll_mk0)) (fun sp _ => (trodAll_cons_mk (shut_int Trym.underlying22 w0) (trodAll_cons_mk (shut_int Trym.underlying22 w1) trodAll_mk0))) (fun _ _ => rfl) rfl
    (hg.frame _) hg.2.1 (ok_one (by kernel_rfl) rfl (okWide_bool_mk Trym.underlying4 _))⟩

theorem over : Rows.fnMaxFrameBytesWholeBlocksAddRow.holds Trym.pinned (OpenSpec.ofChange Rows.fnMaxFrameBytesWholeBlocksAddSpec) :=
  OpenClaim.holds_of_wide 3 Trym.f3 rfl rfl rfl rfl rfl rfl rfl ⟨rfl, rfl, rfl, rfl, rfl⟩ rfl rfl rfl rfl rfl (by kernel_rfl) Trym.func3 (by kernel_rfl)
    (of_decide_eq_true (by kernel_rfl)) (by unfold Func.isWrapper; first | (rw [if_pos (by decide +kernel)]; kernel_rfl) | (rw [if_neg (by decide +kernel)]; exact ⟨rfl, rfl⟩))
    (fun os started H enc _ => lifted os started H enc)

/-- ████ THE STATEMENT ████ -/
theorem proved : Rows.FnMaxFrameBytesWholeBlocksAddSaid :=
  over
end Go.Proofs.Qxb6615075aMods.fnMaxFrameBytesWholeBlocksAdd

namespace Go.Proofs.Qxb6615075aMods
theorem fnMaxFrameBytesWholeBlocksAdd_proved : Rows.FnMaxFrameBytesWholeBlocksAddSaid := fnMaxFrameBytesWholeBlocksAdd.proved
end Go.Proofs.Qxb6615075aMods
