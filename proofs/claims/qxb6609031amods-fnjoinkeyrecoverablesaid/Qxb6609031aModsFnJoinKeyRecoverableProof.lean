/-
  THE PROOF OF 'Rows.FnJoinKeyRecoverableSaid': the frame is the guide's (written by program); the walk and the plain law are ours.
-/
import Derived.Test.Qxb6609031aModsRows
import Derived.WalkKit
import Derived.ProofKit
import Derived.OpenShut
import Derived.ShutString
import Derived.Test.Qxb6609031aModsSplit
namespace Go.Proofs.Qxb6609031aMods.fnJoinKeyRecoverable
open Go.ChangeShapes Go.WideShapes Go.ChangeAt Go.RowKit
open Go.ChangeMaps (open_string shut_string)
set_option linter.unusedVariables false      -- a walk need not use every 'w<i>' (that an integer argument fits its kind)

theorem own : ownKnob Trym.prog.godebug = none := by kernel_rfl

/-! ### STEP 1: THE WALK: the Go text returns true -/
/-- The path is not empty: it is split at the last dot. -/
theorem walk_more (a0 : ByteArray) (a1 : ByteArray) (a2 : ByteArray) (a3 : ByteArray) (w0 : a0.size ≤ maxLen) (w1 : a1.size ≤ maxLen) (w2 : a2.size ≤ maxLen) (w3 : a3.size ≤ maxLen) (w : World)
    (c0 : a0.size ≤ 262144) (c1 : a1.size ≤ 262144) (c2 : a2.size ≤ 262144) (c3 : a3.size ≤ 262144) (d1 : hasDot a1.data.toList = false) (d3 : hasDot a3.data.toList = false)
    (Y Z : Bool) (e1 : ((joinB a0 a1).toList == (joinB a2 a3).toList) = (Y && Z)) (e2 : (a0.toList == a2.toList) = Y) (e3 : (a1.toList == a3.toList) = Z)
    (c4 : a0.toList.isEmpty = false) :
    Calls Trym.prog 4 #[.string a0, .string a1, .string a2, .string a3] w fun e w' => e = .returned (.bool true) ∧ Grown w w' := by
  have hb := bytes4_any a0 a1 a2 a3 w0 w1 w2 w3
  have h1 := hasDot_any a1 w1
  have h3 := hasDot_any a3 w3
  rw [d1] at h1
  rw [d3] at h3
  have hz := more_size a0 a1 c4
  have hm : a0.size < (joinB a0 a1).size := by omega
  have hl := lastDot_at (joinB a0 a1) a0.size (by unfold maxLen; omega) hm (dot_at a0 a1 c4 hm) (fun i hi hlt => dot_none a0 a1 c4 d1 i hi hlt)
  have f1 := head_back a0 a1 c4
  have f2 := tail_back a0 a1 c4 (joinB a0 a1).size (Nat.le_refl _)
  clear d1 d3 hz
  unfold maxLen at w0 w1 w2 w3
  cases Y <;> cases Z
  all_goals
    simp only [Bool.and_false, Bool.and_true] at e1
    go_enter Trym.func4, Trym.ntmps4
    go_wp2_with fail
    refine (hb _).mono ?_
    rintro e w' ⟨⟨r, rfl⟩, rfl⟩
    cases r
    · go_wp2_with fail
      go_ret
      exact ⟨rfl, Grown.refl _⟩
    · go_wp2_with fail
      refine (h1 _).mono ?_
      rintro e w' ⟨rfl, rfl⟩
      go_wp2_with fail
      refine (h3 _).mono ?_
      rintro e w' ⟨rfl, rfl⟩
      go_wp2_with fail
      refine (zzjoin_any a0 a1 (by omega) (by omega) _).mono ?_
      rintro e w' ⟨rfl, rfl⟩
      go_wp2_with fail
      refine (zzjoin_any a2 a3 (by omega) (by omega) _).mono ?_
      rintro e w' ⟨rfl, rfl⟩
      go_wp2_with fail
      refine (hl _).mono ?_
      rintro e w' ⟨rfl, rfl⟩
      go_wp2_with fail
      go_ret
      exact ⟨rfl, Grown.refl _⟩

/-- The path is empty: the join is the key. -/
theorem walk_empty (a0 : ByteArray) (a1 : ByteArray) (a2 : ByteArray) (a3 : ByteArray) (w0 : a0.size ≤ maxLen) (w1 : a1.size ≤ maxLen) (w2 : a2.size ≤ maxLen) (w3 : a3.size ≤ maxLen) (w : World)
    (c0 : a0.size ≤ 262144) (c1 : a1.size ≤ 262144) (c2 : a2.size ≤ 262144) (c3 : a3.size ≤ 262144) (d1 : hasDot a1.data.toList = false) (d3 : hasDot a3.data.toList = false)
    (Y Z : Bool) (e1 : ((joinB a0 a1).toList == (joinB a2 a3).toList) = (Y && Z)) (e2 : (a0.toList == a2.toList) = Y) (e3 : (a1.toList == a3.toList) = Z)
    (c4 : a0.toList.isEmpty = true) :
    Calls Trym.prog 4 #[.string a0, .string a1, .string a2, .string a3] w fun e w' => e = .returned (.bool true) ∧ Grown w w' := by
  have hb := bytes4_any a0 a1 a2 a3 w0 w1 w2 w3
  have h1 := hasDot_any a1 w1
  have h3 := hasDot_any a3 w3
  rw [d1] at h1
  rw [d3] at h3
  have hj : ∀ w : World, Calls Trym.prog 6 #[.string a0, .string a1] w fun e w' => e = .returned (.string a1) ∧ w' = w := by
    intro w; have := zzjoin_any a0 a1 (by omega) (by omega) w; rwa [join_empty a1 c4] at this
  rw [join_empty a1 c4] at e1
  clear d1 d3
  unfold maxLen at w0 w1 w2 w3
  cases Y <;> cases Z
  all_goals
    simp only [Bool.and_false, Bool.and_true] at e1
    go_enter Trym.func4, Trym.ntmps4
    go_wp2_with fail
    refine (hb _).mono ?_
    rintro e w' ⟨⟨r, rfl⟩, rfl⟩
    cases r
    · go_wp2_with fail
      go_ret
      exact ⟨rfl, Grown.refl _⟩
    · go_wp2_with fail
      refine (h1 _).mono ?_
      rintro e w' ⟨rfl, rfl⟩
      go_wp2_with fail
      refine (h3 _).mono ?_
      rintro e w' ⟨rfl, rfl⟩
      go_wp2_with fail
      refine (hj _).mono ?_
      rintro e w' ⟨rfl, rfl⟩
      go_wp2_with fail
      refine (zzjoin_any a2 a3 (by omega) (by omega) _).mono ?_
      rintro e w' ⟨rfl, rfl⟩
      go_wp2_with fail
      go_ret
      exact ⟨rfl, Grown.refl _⟩

/-- A key has a dot: the law says nothing. -/
theorem walk_dots (a0 : ByteArray) (a1 : ByteArray) (a2 : ByteArray) (a3 : ByteArray) (w0 : a0.size ≤ maxLen) (w1 : a1.size ≤ maxLen) (w2 : a2.size ≤ maxLen) (w3 : a3.size ≤ maxLen) (w : World)
    (c0 : a0.size ≤ 262144) (c1 : a1.size ≤ 262144) (c2 : a2.size ≤ 262144) (c3 : a3.size ≤ 262144) (d : hasDot a1.data.toList = true ∨ hasDot a1.data.toList = false ∧ hasDot a3.data.toList = true) :
    Calls Trym.prog 4 #[.string a0, .string a1, .string a2, .string a3] w fun e w' => e = .returned (.bool true) ∧ Grown w w' := by
  have hb := bytes4_any a0 a1 a2 a3 w0 w1 w2 w3
  have h1 := hasDot_any a1 w1
  have h3 := hasDot_any a3 w3
  unfold maxLen at w0 w1 w2 w3
  rcases d with d1 | ⟨d1, d3⟩
  · rw [d1] at h1
    clear d1 h3
    go_enter Trym.func4, Trym.ntmps4
    go_wp2_with fail
    refine (hb _).mono ?_
    rintro e w' ⟨⟨r, rfl⟩, rfl⟩
    cases r
    · go_wp2_with fail
      go_ret
      exact ⟨rfl, Grown.refl _⟩
    · go_wp2_with fail
      refine (h1 _).mono ?_
      rintro e w' ⟨rfl, rfl⟩
      go_wp2_with fail
      go_ret
      exact ⟨rfl, Grown.refl _⟩
  · rw [d1] at h1
    rw [d3] at h3
    clear d1 d3
    go_enter Trym.func4, Trym.ntmps4
    go_wp2_with fail
    refine (hb _).mono ?_
    rintro e w' ⟨⟨r, rfl⟩, rfl⟩
    cases r
    · go_wp2_with fail
      go_ret
      exact ⟨rfl, Grown.refl _⟩
    · go_wp2_with fail
      refine (h1 _).mono ?_
      rintro e w' ⟨rfl, rfl⟩
      go_wp2_with fail
      refine (h3 _).mono ?_
      rintro e w' ⟨rfl, rfl⟩
      go_wp2_with fail
      go_ret
      exact ⟨rfl, Grown.refl _⟩

/-- A string is too long: the law says nothing. -/
theorem walk_long (a0 : ByteArray) (a1 : ByteArray) (a2 : ByteArray) (a3 : ByteArray) (w0 : a0.size ≤ maxLen) (w1 : a1.size ≤ maxLen) (w2 : a2.size ≤ maxLen) (w3 : a3.size ≤ maxLen) (w : World)
    (c : ¬ a0.size ≤ 262144 ∨ ¬ a1.size ≤ 262144 ∨ ¬ a2.size ≤ 262144 ∨ ¬ a3.size ≤ 262144) :
    Calls Trym.prog 4 #[.string a0, .string a1, .string a2, .string a3] w fun e w' => e = .returned (.bool true) ∧ Grown w w' := by
  have hb := bytes4_any a0 a1 a2 a3 w0 w1 w2 w3
  unfold maxLen at w0 w1 w2 w3
  by_cases c0 : a0.size ≤ 262144
  · by_cases c1 : a1.size ≤ 262144
    · by_cases c2 : a2.size ≤ 262144
      · have c3 : ¬ a3.size ≤ 262144 := by
          rcases c with c | c | c | c
          · exact absurd c0 c
          · exact absurd c1 c
          · exact absurd c2 c
          · exact c
        clear c
        go_enter Trym.func4, Trym.ntmps4
        go_wp2_with (go_at_call 7; refine (hb _).mono ?_; rintro e w' ⟨⟨r, rfl⟩, rfl⟩; cases r)
        all_goals (go_ret; exact ⟨rfl, Grown.refl _⟩)
      · clear c
        go_enter Trym.func4, Trym.ntmps4
        go_wp2_with (go_at_call 7; refine (hb _).mono ?_; rintro e w' ⟨⟨r, rfl⟩, rfl⟩; cases r)
        all_goals (go_ret; exact ⟨rfl, Grown.refl _⟩)
    · clear c
      go_enter Trym.func4, Trym.ntmps4
      go_wp2_with (go_at_call 7; refine (hb _).mono ?_; rintro e w' ⟨⟨r, rfl⟩, rfl⟩; cases r)
      all_goals (go_ret; exact ⟨rfl, Grown.refl _⟩)
  · clear c
    go_enter Trym.func4, Trym.ntmps4
    go_wp2_with (go_at_call 7; refine (hb _).mono ?_; rintro e w' ⟨⟨r, rfl⟩, rfl⟩; cases r)
    all_goals (go_ret; exact ⟨rfl, Grown.refl _⟩)

theorem walk (a0 : ByteArray) (a1 : ByteArray) (a2 : ByteArray) (a3 : ByteArray) (w0 : a0.size ≤ maxLen) (w1 : a1.size ≤ maxLen) (w2 : a2.size ≤ maxLen) (w3 : a3.size ≤ maxLen) (w : World) :
    Calls Trym.prog 4 #[.string a0, .string a1, .string a2, .string a3] w fun e w' => e = .returned (.bool true) ∧ Grown w w' := by
  by_cases c : a0.size ≤ 262144 ∧ a1.size ≤ 262144 ∧ a2.size ≤ 262144 ∧ a3.size ≤ 262144
  · obtain ⟨c0, c1, c2, c3⟩ := c
    cases d1 : hasDot a1.data.toList
    · cases d3 : hasDot a3.data.toList
      · have e1 := same_iff a0 a1 a2 a3 d1 d3
        cases c4 : a0.toList.isEmpty
        · exact walk_more a0 a1 a2 a3 w0 w1 w2 w3 w c0 c1 c2 c3 d1 d3 _ _ e1 rfl rfl c4
        · exact walk_empty a0 a1 a2 a3 w0 w1 w2 w3 w c0 c1 c2 c3 d1 d3 _ _ e1 rfl rfl c4
      · exact walk_dots a0 a1 a2 a3 w0 w1 w2 w3 w c0 c1 c2 c3 (.inr ⟨d1, d3⟩)
    · exact walk_dots a0 a1 a2 a3 w0 w1 w2 w3 w c0 c1 c2 c3 (.inl d1)
  · exact walk_long a0 a1 a2 a3 w0 w1 w2 w3 w (by omega)

/-! ### THE ROW's STEP: WRITTEN OUT: LEAVE IT -/
set_option maxRecDepth 100000 in
theorem lifted (os : Os) (started : os.Started) (H : Type) (enc : TypeId × Value → H) :
    ReturnsInHanded {} Trym.checked os 4 .any (Rows.fnJoinKeyRecoverableSpec.pre6 enc Trym.prog Trym.f4 Rows.fnJoinKeyRecoverableRow.domain false) (Rows.fnJoinKeyRecoverableSpec.post enc Trym.prog Trym.f4 false true false false) := by
  refine returnsInHanded_of_change (C := Trym.checked) own started (by kernel_rfl) Trym.func4
    (ChangeSpec.witness6 (enc := enc) (C := Trym.checked) false ⟨#[], #[.string ByteArray.empty, .string ByteArray.empty, .string ByteArray.empty, .string ByteArray.empty], []⟩ 8 (by kernel_rfl) (by kernel_rfl) (by kernel_rfl) (by kernel_rfl)) ?_
  intro W base args ds gs before hval0 hW hcnd _
  have hval : ∀ (j : Nat) t v, Trym.f4.params[j]? = some t → args[j]? = some v → Value.okWide Trym.prog W .any base t v := hval0
  have hW' := hW
  obtain ⟨p, q, hA0, hV, rfl, hfz, hnd⟩ := hW
  have hA : DataW.TrodAll enc Trym.prog W 0 (fun _ => true) true Trym.f4.params.toList args.toList ds p := hA0
  rw [Trym.params4] at hA hval
  obtain ⟨v0, vs0, d0, ds0, p0, q0, hargs, rfl, rfl, h0, r0⟩ := trodAll_cons hA
  obtain ⟨v1, vs1, d1, ds1, p1, q1, rfl, rfl, rfl, h1, r1⟩ := trodAll_cons r0
  obtain ⟨v2, vs2, d2, ds2, p2, q2, rfl, rfl, rfl, h2, r2⟩ := trodAll_cons r1
  obtain ⟨v3, vs3, d3, ds3, p3, q3, rfl, rfl, rfl, h3, r3⟩ := trodAll_cons r2
  obtain ⟨rfl, rfl, rfl⟩ := trodAll_nil r3
  obtain rfl : args = #[v0, v1, v2, v3] := by cases args; simp_all
  obtain ⟨rfl, rfl⟩ := trodVars_none hV
  obtain ⟨a0, rfl, rfl, rfl, w0⟩ := open_string Trym.underlying9 (hval 0 9 v0 rfl rfl) h0
  obtain ⟨a1, rfl, rfl, rfl, w1⟩ := open_string Trym.underlying9 (hval 1 9 v1 rfl rfl) h1
  obtain ⟨a2, rfl, rfl, rfl, w2⟩ := open_string Trym.underlying9 (hval 2 9 v2 rfl rfl) h2
  obtain ⟨a3, rfl, rfl, rfl, w3⟩ := open_string Trym.underlying9 (hval 3 9 v3 rfl rfl) h3
  clear hA0 hval0
  simp only [List.append_nil] at hW'
  refine (walk a0 a1 a2 a3 w0 w1 w2 w3 W).mono fun e W' ⟨he, hg⟩ => ?_
  subst he
  exact ⟨_, rfl, post_of_same (pa := []) (pv := []) hW' (fun _ _ _ => (trodAll_cons_mk (shut_bool Trym.underlying4 _) trodAll_mk0)) (fun sp _ => (trodAll_cons_mk (shut_string Trym.underlying9 w0) (trodAll_cons_mk (shut_string Trym.underlying9 w1) (trodAll_cons_mk (shut_string Trym.underlying9 w2) (trodAll_cons_mk (shut_string Trym.underlying9 w3) trodAll_mk0))))) (fun _ _ => rfl) rfl
    (hg.frame _) hg.2.1 (ok_one (by kernel_rfl) rfl (okWide_bool_mk Trym.underlying4 _))⟩

theorem over : Rows.fnJoinKeyRecoverableRow.holds Trym.pinned (OpenSpec.ofChange Rows.fnJoinKeyRecoverableSpec) :=
  OpenClaim.holds_of_wide 4 Trym.f4 rfl rfl rfl rfl rfl rfl rfl ⟨rfl, rfl, rfl, rfl, rfl⟩ rfl rfl rfl rfl rfl (by kernel_rfl) Trym.func4 (by kernel_rfl)
    (of_decide_eq_true (by kernel_rfl)) (by unfold Func.isWrapper; first | (rw [if_pos (by decide +kernel)]; kernel_rfl) | (rw [if_neg (by decide +kernel)]; exact ⟨rfl, rfl⟩))
    (fun os started H enc _ => lifted os started H enc)

/-- ████ THE STATEMENT ████ -/
theorem proved : Rows.FnJoinKeyRecoverableSaid :=
  over
end Go.Proofs.Qxb6609031aMods.fnJoinKeyRecoverable

namespace Go.Proofs.Qxb6609031aMods
theorem fnJoinKeyRecoverable_proved : Rows.FnJoinKeyRecoverableSaid := fnJoinKeyRecoverable.proved
end Go.Proofs.Qxb6609031aMods
