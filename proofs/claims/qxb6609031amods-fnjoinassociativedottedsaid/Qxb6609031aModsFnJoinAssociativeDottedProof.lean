/-
  THE PROOF OF 'Rows.FnJoinAssociativeDottedSaid': the frame is the guide's (written by program); the walk and the plain law are ours.
-/
import Derived.Test.Qxb6609031aModsRows
import Derived.WalkKit
import Derived.ProofKit
import Derived.OpenShut
import Derived.ShutString
import Derived.Test.Qxb6609031aModsJoin
namespace Go.Proofs.Qxb6609031aMods.fnJoinAssociativeDotted
open Go.ChangeShapes Go.WideShapes Go.ChangeAt Go.RowKit
open Go.ChangeMaps (open_string shut_string)
set_option linter.unusedVariables false      -- a walk need not use every 'w<i>' (that an integer argument fits its kind)

theorem own : ownKnob Trym.prog.godebug = none := by kernel_rfl

/-! ### STEP 1: THE WALK: the Go text returns true -/
theorem walk_in (a0 : ByteArray) (a1 : ByteArray) (a2 : ByteArray) (w0 : a0.size ≤ maxLen) (w1 : a1.size ≤ maxLen) (w2 : a2.size ≤ maxLen) (w : World)
    (c0 : a0.size ≤ 262144) (c1 : a1.size ≤ 262144) (c2 : a2.size ≤ 262144) (c3 : a1.toList.isEmpty = false) :
    Calls Trym.prog 3 #[.string a0, .string a1, .string a2] w fun e w' => e = .returned (.bool true) ∧ Grown w w' := by
  have hb := bytes3_any a0 a1 a2 w0 w1 w2
  unfold maxLen at w0 w1 w2
  have s1 := join_size a0 a1
  have s2 := join_size a1 a2
  have e1 : ((joinB (joinB a0 a1) a2).toList == (joinB a0 (joinB a1 a2)).toList) = true := by rw [assoc_left a0 a1 a2 c3]; simp
  cases c4 : a0.toList.isEmpty
  · have e2 : ((joinB (joinB a0 a1) a2).toList == (a0 ++ ByteArray.mk #[46] ++ (a1 ++ ByteArray.mk #[46] ++ a2)).toList) = true := by rw [assoc_want_more a0 a1 a2 c4 c3]; simp
    go_enter Trym.func3, Trym.ntmps3
    go_wp2_with fail
    refine (hb _).mono ?_
    rintro e w' ⟨⟨r, rfl⟩, rfl⟩
    cases r
    · go_wp2_with fail
      go_ret
      exact ⟨rfl, Grown.refl _⟩
    · go_wp2_with fail
      refine (zzjoin_any a0 a1 (by omega) (by omega) _).mono ?_
      rintro e w' ⟨rfl, rfl⟩
      go_wp2_with fail
      refine (zzjoin_any (joinB a0 a1) a2 (by omega) (by omega) _).mono ?_
      rintro e w' ⟨rfl, rfl⟩
      go_wp2_with fail
      refine (zzjoin_any a1 a2 (by omega) (by omega) _).mono ?_
      rintro e w' ⟨rfl, rfl⟩
      go_wp2_with fail
      refine (zzjoin_any a0 (joinB a1 a2) (by omega) (by omega) _).mono ?_
      rintro e w' ⟨rfl, rfl⟩
      go_wp2_with fail
      go_ret
      exact ⟨rfl, Grown.refl _⟩
  · have e2 : ((joinB (joinB a0 a1) a2).toList == (a1 ++ ByteArray.mk #[46] ++ a2).toList) = true := by rw [assoc_want_empty a0 a1 a2 c4 c3]; simp
    go_enter Trym.func3, Trym.ntmps3
    go_wp2_with fail
    refine (hb _).mono ?_
    rintro e w' ⟨⟨r, rfl⟩, rfl⟩
    cases r
    · go_wp2_with fail
      go_ret
      exact ⟨rfl, Grown.refl _⟩
    · go_wp2_with fail
      refine (zzjoin_any a0 a1 (by omega) (by omega) _).mono ?_
      rintro e w' ⟨rfl, rfl⟩
      go_wp2_with fail
      refine (zzjoin_any (joinB a0 a1) a2 (by omega) (by omega) _).mono ?_
      rintro e w' ⟨rfl, rfl⟩
      go_wp2_with fail
      refine (zzjoin_any a1 a2 (by omega) (by omega) _).mono ?_
      rintro e w' ⟨rfl, rfl⟩
      go_wp2_with fail
      refine (zzjoin_any a0 (joinB a1 a2) (by omega) (by omega) _).mono ?_
      rintro e w' ⟨rfl, rfl⟩
      go_wp2_with fail
      go_ret
      exact ⟨rfl, Grown.refl _⟩

/-- The ways out ahead of the joins: a string is too long, or the middle key is empty. -/
theorem walk_out (a0 : ByteArray) (a1 : ByteArray) (a2 : ByteArray) (w0 : a0.size ≤ maxLen) (w1 : a1.size ≤ maxLen) (w2 : a2.size ≤ maxLen) (w : World)
    (c : ¬ (a0.size ≤ 262144 ∧ a1.size ≤ 262144 ∧ a2.size ≤ 262144 ∧ a1.toList.isEmpty = false)) :
    Calls Trym.prog 3 #[.string a0, .string a1, .string a2] w fun e w' => e = .returned (.bool true) ∧ Grown w w' := by
  have hb := bytes3_any a0 a1 a2 w0 w1 w2
  unfold maxLen at w0 w1 w2
  by_cases c0 : a0.size ≤ 262144
  · by_cases c1 : a1.size ≤ 262144
    · by_cases c2 : a2.size ≤ 262144
      · have c3 : a1.toList.isEmpty = true := by
          cases c3 : a1.toList.isEmpty
          · exact absurd ⟨c0, c1, c2, c3⟩ c
          · rfl
        clear c
        go_enter Trym.func3, Trym.ntmps3
        go_wp2_with (go_at_call 5; refine (hb _).mono ?_; rintro e w' ⟨⟨r, rfl⟩, rfl⟩; cases r)
        all_goals (go_ret; exact ⟨rfl, Grown.refl _⟩)
      · clear c
        go_enter Trym.func3, Trym.ntmps3
        go_wp2_with (go_at_call 5; refine (hb _).mono ?_; rintro e w' ⟨⟨r, rfl⟩, rfl⟩; cases r)
        all_goals (go_ret; exact ⟨rfl, Grown.refl _⟩)
    · clear c
      go_enter Trym.func3, Trym.ntmps3
      go_wp2_with (go_at_call 5; refine (hb _).mono ?_; rintro e w' ⟨⟨r, rfl⟩, rfl⟩; cases r)
      all_goals (go_ret; exact ⟨rfl, Grown.refl _⟩)
  · clear c
    go_enter Trym.func3, Trym.ntmps3
    go_wp2_with (go_at_call 5; refine (hb _).mono ?_; rintro e w' ⟨⟨r, rfl⟩, rfl⟩; cases r)
    all_goals (go_ret; exact ⟨rfl, Grown.refl _⟩)

theorem walk (a0 : ByteArray) (a1 : ByteArray) (a2 : ByteArray) (w0 : a0.size ≤ maxLen) (w1 : a1.size ≤ maxLen) (w2 : a2.size ≤ maxLen) (w : World) :
    Calls Trym.prog 3 #[.string a0, .string a1, .string a2] w fun e w' => e = .returned (.bool true) ∧ Grown w w' := by
  by_cases c : a0.size ≤ 262144 ∧ a1.size ≤ 262144 ∧ a2.size ≤ 262144 ∧ a1.toList.isEmpty = false
  · exact walk_in a0 a1 a2 w0 w1 w2 w c.1 c.2.1 c.2.2.1 c.2.2.2
  · exact walk_out a0 a1 a2 w0 w1 w2 w c

/-! ### THE ROW's STEP: WRITTEN OUT: LEAVE IT -/
set_option maxRecDepth 100000 in
theorem lifted (os : Os) (started : os.Started) (H : Type) (enc : TypeId × Value → H) :
    ReturnsInHanded {} Trym.checked os 3 .any (Rows.fnJoinAssociativeDottedSpec.pre6 enc Trym.prog Trym.f3 Rows.fnJoinAssociativeDottedRow.domain false) (Rows.fnJoinAssociativeDottedSpec.post enc Trym.prog Trym.f3 false true false false) := by
  refine returnsInHanded_of_change (C := Trym.checked) own started (by kernel_rfl) Trym.func3
    (ChangeSpec.witness6 (enc := enc) (C := Trym.checked) false ⟨#[], #[.string ByteArray.empty, .string ByteArray.empty, .string ByteArray.empty], []⟩ 8 (by kernel_rfl) (by kernel_rfl) (by kernel_rfl) (by kernel_rfl)) ?_
  intro W base args ds gs before hval0 hW hcnd _
  have hval : ∀ (j : Nat) t v, Trym.f3.params[j]? = some t → args[j]? = some v → Value.okWide Trym.prog W .any base t v := hval0
  have hW' := hW
  obtain ⟨p, q, hA0, hV, rfl, hfz, hnd⟩ := hW
  have hA : DataW.TrodAll enc Trym.prog W 0 (fun _ => true) true Trym.f3.params.toList args.toList ds p := hA0
  rw [Trym.params3] at hA hval
  obtain ⟨v0, vs0, d0, ds0, p0, q0, hargs, rfl, rfl, h0, r0⟩ := trodAll_cons hA
  obtain ⟨v1, vs1, d1, ds1, p1, q1, rfl, rfl, rfl, h1, r1⟩ := trodAll_cons r0
  obtain ⟨v2, vs2, d2, ds2, p2, q2, rfl, rfl, rfl, h2, r2⟩ := trodAll_cons r1
  obtain ⟨rfl, rfl, rfl⟩ := trodAll_nil r2
  obtain rfl : args = #[v0, v1, v2] := by cases args; simp_all
  obtain ⟨rfl, rfl⟩ := trodVars_none hV
  obtain ⟨a0, rfl, rfl, rfl, w0⟩ := open_string Trym.underlying9 (hval 0 9 v0 rfl rfl) h0
  obtain ⟨a1, rfl, rfl, rfl, w1⟩ := open_string Trym.underlying9 (hval 1 9 v1 rfl rfl) h1
  obtain ⟨a2, rfl, rfl, rfl, w2⟩ := open_string Trym.underlying9 (hval 2 9 v2 rfl rfl) h2
  clear hA0 hval0
  simp only [List.append_nil] at hW'
  refine (walk a0 a1 a2 w0 w1 w2 W).mono fun e W' ⟨he, hg⟩ => ?_
  subst he
  exact ⟨_, rfl, post_of_same (pa := []) (pv := []) hW' (fun _ _ _ => (trodAll_cons_mk (shut_bool Trym.underlying4 _) trodAll_mk0)) (fun sp _ => (trodAll_cons_mk (shut_string Trym.underlying9 w0) (trodAll_cons_mk (shut_string Trym.underlying9 w1) (trodAll_cons_mk (shut_string Trym.underlying9 w2) trodAll_mk0)))) (fun _ _ => rfl) rfl
    (hg.frame _) hg.2.1 (ok_one (by kernel_rfl) rfl (okWide_bool_mk Trym.underlying4 _))⟩

theorem over : Rows.fnJoinAssociativeDottedRow.holds Trym.pinned (OpenSpec.ofChange Rows.fnJoinAssociativeDottedSpec) :=
  OpenClaim.holds_of_wide 3 Trym.f3 rfl rfl rfl rfl rfl rfl rfl ⟨rfl, rfl, rfl, rfl, rfl⟩ rfl rfl rfl rfl rfl (by kernel_rfl) Trym.func3 (by kernel_rfl)
    (of_decide_eq_true (by kernel_rfl)) (by unfold Func.isWrapper; first | (rw [if_pos (by decide +kernel)]; kernel_rfl) | (rw [if_neg (by decide +kernel)]; exact ⟨rfl, rfl⟩))
    (fun os started H enc _ => lifted os started H enc)

/-- ████ THE STATEMENT ████ -/
theorem proved : Rows.FnJoinAssociativeDottedSaid :=
  over
end Go.Proofs.Qxb6609031aMods.fnJoinAssociativeDotted

namespace Go.Proofs.Qxb6609031aMods
theorem fnJoinAssociativeDotted_proved : Rows.FnJoinAssociativeDottedSaid := fnJoinAssociativeDotted.proved
end Go.Proofs.Qxb6609031aMods
