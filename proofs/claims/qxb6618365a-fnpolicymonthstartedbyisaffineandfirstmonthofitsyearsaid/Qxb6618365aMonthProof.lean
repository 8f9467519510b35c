/-
  A PROOF OF 'Rows.FnPolicyMonthStartedByIsAffineAndFirstMonthOfItsYearSaid' ('example.com/jeokrip/jeokrip/zzlaws_pkg_calendar_b1.FnPolicyMonthStartedByIsAffineAndFirstMonthOfItsYear'), WRITTEN BY PROGRAM (proof-skeleton.mjs) off the guide's own print for that function. Not trusted: Lean checks it.
  The walk is filled by hand; all else is the guide's template at this function's number and types.
-/
import Derived.Test.Qxb6618365aRows
import Derived.WalkKit
import Derived.ProofKit
import Derived.OpenShut
import Derived.ShutString
namespace Go.Proofs.Qxb6618365a.fnPolicyMonthStartedByIsAffineAndFirstMonthOfItsYear
open Go.ChangeShapes Go.WideShapes Go.ChangeAt Go.RowKit
open Go.ChangeMaps (open_string shut_string)
set_option linter.unusedVariables false      -- a walk need not use every 'w<i>' (that an integer argument fits its kind)

theorem own : ownKnob Try.prog.godebug = none := by kernel_rfl

/-! ### STEP 1: THE WALK -/
/-- PolicyMonthStartedBy (4), where nothing wraps. -/
theorem months (y : Int) (w : World) (h0 : -400000000000000000 ≤ y) (h1 : y ≤ 400000000000000000) :
    Calls Try.prog 4 #[.int .i64 y] w fun e w' => e = .returned (.int .i64 (12 * y + 1)) ∧ w = w' := by
  go_enter Try.func4, Try.ntmps4
  go_wp2
  go_ret
  exact ⟨rfl, rfl⟩

/-- zzFullYearsIn (5), of a run that is not negative; the answer is named by the caller. -/
theorem years (k y : Int) (w : World) (h0 : 0 ≤ k) (h1 : k ≤ 9000000000000000000) (hy : k / 12 = y) :
    Calls Try.prog 5 #[.int .i64 k] w fun e w' => e = .returned (.int .i64 y) ∧ w = w' := by
  have HY : Hid (k / 12 = y) := hy
  clear hy
  go_enter Try.func5, Try.ntmps5
  go_wp2
  go_ret
  refine ⟨?_, rfl⟩
  rw [← HY.out]
  rfl

set_option maxHeartbeats 1000000 in
theorem walk (a0 : Int) (a1 : Int) (w0 : (Lit.int .i64 a0).wf = true) (w1 : (Lit.int .i64 a1).wf = true) (w : World) :
    Calls Try.prog 3 #[.int .i64 a0, .int .i64 a1] w fun e w' => e = .returned (.bool true) ∧ Grown w w' := by
  clear w0 w1
  by_cases c1 : 192153584101141162 < a0
  · go_enter Try.func3, Try.ntmps3
    go_wp2
    go_ret
    exact ⟨rfl, Grown.refl _⟩
  by_cases c2 : a0 < -192153584101141162
  · go_enter Try.func3, Try.ntmps3
    go_wp2
    go_ret
    exact ⟨rfl, Grown.refl _⟩
  by_cases c3 : 192153584101141162 < a1
  · go_enter Try.func3, Try.ntmps3
    go_wp2
    go_ret
    exact ⟨rfl, Grown.refl _⟩
  by_cases c4 : a1 < -192153584101141162
  · go_enter Try.func3, Try.ntmps3
    go_wp2
    go_ret
    exact ⟨rfl, Grown.refl _⟩
  go_enter Try.func3, Try.ntmps3
  go_wp2_with fail
  refine (months a0 _ (by omega) (by omega)).mono ?_
  rintro e w' ⟨rfl, rfl⟩
  go_wp2_with fail
  refine (months a1 _ (by omega) (by omega)).mono ?_
  rintro e w' ⟨rfl, rfl⟩
  go_wp2_with fail
  refine (months (a0 + a1) _ (by omega) (by omega)).mono ?_
  rintro e w' ⟨rfl, rfl⟩
  have e1 : (12 * (a0 + a1) + 1 + 1 == 12 * a0 + 1 + (12 * a1 + 1)) = true := by rw [beq_iff_eq]; omega
  by_cases c5 : a0 < 0
  · go_wp2_with fail
    go_ret
    exact ⟨rfl, Grown.refl _⟩
  go_wp2_with fail
  refine (years _ a0 _ (by omega) (by omega) (by omega)).mono ?_
  rintro e w' ⟨rfl, rfl⟩
  by_cases c6 : a0 = 0
  · subst c6
    go_wp2_with fail
    go_ret
    exact ⟨rfl, Grown.refl _⟩
  go_wp2_with fail
  refine (years _ (a0 - 1) _ (by omega) (by omega) (by omega)).mono ?_
  rintro e w' ⟨rfl, rfl⟩
  go_wp2_with fail
  go_ret
  exact ⟨rfl, Grown.refl _⟩

/-! ### THE ROW's STEP: WRITTEN OUT: LEAVE IT -/
set_option maxRecDepth 100000 in
theorem lifted (os : Os) (started : os.Started) (H : Type) (enc : TypeId × Value → H) :
    ReturnsInHanded {} Try.checked os 3 .any (Rows.fnPolicyMonthStartedByIsAffineAndFirstMonthOfItsYearSpec.pre6 enc Try.prog Try.f3 Rows.fnPolicyMonthStartedByIsAffineAndFirstMonthOfItsYearRow.domain false) (Rows.fnPolicyMonthStartedByIsAffineAndFirstMonthOfItsYearSpec.post enc Try.prog Try.f3 false true false false) := by
  refine returnsInHanded_of_change (C := Try.checked) own started (by kernel_rfl) Try.func3
    (ChangeSpec.witness6 (enc := enc) (C := Try.checked) false ⟨#[], #[.int .i64 0, .int .i64 0], []⟩ 8 (by kernel_rfl) (by kernel_rfl) (by kernel_rfl) (by kernel_rfl)) ?_
  intro W base args ds gs before hval0 hW hcnd _
  have hval : ∀ (j : Nat) t v, Try.f3.params[j]? = some t → args[j]? = some v → Value.okWide Try.prog W .any base t v := hval0
  have hW' := hW
  obtain ⟨p, q, hA0, hV, rfl, hfz, hnd⟩ := hW
  have hA : DataW.TrodAll enc Try.prog W 0 (fun _ => true) true Try.f3.params.toList args.toList ds p := hA0
  rw [Try.params3] at hA hval
  obtain ⟨v0, vs0, d0, ds0, p0, q0, hargs, rfl, rfl, h0, r0⟩ := trodAll_cons hA
  obtain ⟨v1, vs1, d1, ds1, p1, q1, rfl, rfl, rfl, h1, r1⟩ := trodAll_cons r0
  obtain ⟨rfl, rfl, rfl⟩ := trodAll_nil r1
  obtain rfl : args = #[v0, v1] := by cases args; simp_all
  obtain ⟨rfl, rfl⟩ := trodVars_none hV
  obtain ⟨a0, rfl, rfl, rfl, w0⟩ := open_int Try.underlying3 (hval 0 3 v0 rfl rfl) h0
  obtain ⟨a1, rfl, rfl, rfl, w1⟩ := open_int Try.underlying3 (hval 1 3 v1 rfl rfl) h1
  clear hA0 hval0
  simp only [List.append_nil] at hW'
  refine (walk a0 a1 w0 w1 W).mono fun e W' ⟨he, hg⟩ => ?_
  subst he
  exact ⟨_, rfl, post_of_same (pa := []) (pv := []) hW' (fun _ _ _ => (trodAll_cons_mk (shut_bool Try.underlying4 _) trodAll_mk0)) (fun sp _ => (trodAll_cons_mk (shut_int Try.underlying3 w0) (trodAll_cons_mk (shut_int Try.underlying3 w1) trodAll_mk0))) (fun _ _ => rfl) rfl
    (hg.frame _) hg.2.1 (ok_one (by kernel_rfl) rfl (okWide_bool_mk Try.underlying4 _))⟩

theorem over : Rows.fnPolicyMonthStartedByIsAffineAndFirstMonthOfItsYearRow.holds Try.pinned (OpenSpec.ofChange Rows.fnPolicyMonthStartedByIsAffineAndFirstMonthOfItsYearSpec) :=
  OpenClaim.holds_of_wide 3 Try.f3 rfl rfl rfl rfl rfl rfl rfl ⟨rfl, rfl, rfl, rfl, rfl⟩ rfl rfl rfl rfl rfl (by kernel_rfl) Try.func3 (by kernel_rfl)
    (of_decide_eq_true (by kernel_rfl)) (by unfold Func.isWrapper; first | (rw [if_pos (by decide +kernel)]; kernel_rfl) | (rw [if_neg (by decide +kernel)]; exact ⟨rfl, rfl⟩))
    (fun os started H enc _ => lifted os started H enc)

/-- ████ THE STATEMENT ████ -/
theorem proved : Rows.FnPolicyMonthStartedByIsAffineAndFirstMonthOfItsYearSaid :=
  over
end Go.Proofs.Qxb6618365a.fnPolicyMonthStartedByIsAffineAndFirstMonthOfItsYear

namespace Go.Proofs.Qxb6618365a
theorem policyMonth_proved : Rows.FnPolicyMonthStartedByIsAffineAndFirstMonthOfItsYearSaid := fnPolicyMonthStartedByIsAffineAndFirstMonthOfItsYear.proved
end Go.Proofs.Qxb6618365a
