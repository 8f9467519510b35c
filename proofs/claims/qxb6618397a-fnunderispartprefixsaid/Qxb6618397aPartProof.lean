/-
  A PROOF OF 'Rows.FnUnderIsPartPrefixSaid' ('example.com/quartermaster/quartermaster/zzlaws_internal_allowlist_b1.FnUnderIsPartPrefix'), WRITTEN BY PROGRAM (proof-skeleton.mjs) off the guide's own print for that function. Not trusted: Lean checks it.
  The walk is filled by hand; the row's step is the guide's, with 'Below' for what the call leaves of old memory.
-/
import Derived.Test.Qxb6618397aUnder
import Derived.Test.Qxb6618397aSplitWalk
import Derived.WalkKit
import Derived.ProofKit
import Derived.OpenShut
import Derived.ShutString
import Derived.Below
namespace Go.Proofs.Qxb6618397a.fnUnderIsPartPrefix
open Go.ChangeShapes Go.WideShapes Go.ChangeAt Go.RowKit
open Go.ChangeMaps (open_string shut_string)
set_option linter.unusedVariables false      -- a walk need not use every 'w<i>' (that an integer argument fits its kind)

theorem own : ownKnob Try.prog.godebug = none := by kernel_rfl

/-! ### STEP 1: THE WALK -/
set_option maxHeartbeats 1000000 in
theorem walk (a0 : ByteArray) (a1 : ByteArray) (w0 : a0.size ≤ maxLen) (w1 : a1.size ≤ maxLen) (w : World) :
    Calls Try.prog 3 #[.string a0, .string a1] w fun e w' => e = .returned (.bool true) ∧ Below w.heap.size w w' := by
  have HG : Hid (Calls Try.prog 5 #[.string a0, .string a1] w (Ans w)) := guard5 a0 a1 w w0 w1
  clear w0 w1
  go_enter Try.func3, Try.ntmps3
  go_wp2_with fail
  refine HG.out.mono ?_
  clear HG
  rintro e w' ⟨rfl, c, rfl⟩
  cases c with
  | false =>
    go_wp2
    go_ret
    exact ⟨rfl, Below.refl _ _⟩
  | true =>
    by_cases c0 : a0.size ≤ 65536
    rotate_left
    · go_wp2
      go_ret
      exact ⟨rfl, Below.refl _ _⟩
    by_cases c1 : a1.size ≤ 65536
    rotate_left
    · go_wp2
      go_ret
      exact ⟨rfl, Below.refl _ _⟩
    obtain ⟨b, HB⟩ : ∃ b, Hid (und a0.data.toList a1.data.toList = b) := ⟨_, rfl⟩
    go_wp2_with fail
    refine (under6 a0 a1 b _ (by omega) HB.out).mono ?_
    rintro e w' ⟨rfl, rfl⟩
    go_wp2_with fail
    refine (split8 a0 _ c0).mono ?_
    rintro e v1 ⟨ao, k1, rs, rfl, hA, hr, hl, hb1⟩
    have R : Hid (At v1 ao rs.length rs ∧ bytesOf rs = splitL a0.data.toList ∧ Below w.heap.size w v1) := ⟨hA, hr, hb1⟩
    clear hA hr hb1
    go_wp2_with fail
    refine (split8 a1 _ c1).mono ?_
    rintro e v2 ⟨bo, k2, ts, rfl, hA2, ht, hl2, hb2⟩
    have hp := pre7 ao bo rs.length ts.length k1 k2 rs ts v2 (R.out.1.below (Nat.le_refl _) hb2) hA2 (by omega)
    rw [R.out.2.1, ht, ← und_parts, HB.out] at hp
    have HP : Hid (Calls Try.prog 7 #[.slice ao rs.length k1, .slice bo ts.length k2] v2 fun e w' => e = .returned (.bool b) ∧ ∃ q, w' = v2.drewN q) := hp
    have HW : Hid (Below w.heap.size w v2) := R.out.2.2.trans (hb2.mono R.out.2.2.size)
    clear hp hA2 ht hb2 R
    go_wp2_with fail
    refine HP.out.mono ?_
    rintro e v3 ⟨rfl, q, rfl⟩
    have hbb : (b == b) = true := by simp
    go_wp2_with fail
    go_ret
    exact ⟨rfl, below_drewN HW.out q⟩

/-! ### THE ROW's STEP: WRITTEN OUT: LEAVE IT -/
set_option maxRecDepth 100000 in
theorem lifted (os : Os) (started : os.Started) (H : Type) (enc : TypeId × Value → H) :
    ReturnsInHanded {} Try.checked os 3 .any (Rows.fnUnderIsPartPrefixSpec.pre6 enc Try.prog Try.f3 Rows.fnUnderIsPartPrefixRow.domain false) (Rows.fnUnderIsPartPrefixSpec.post enc Try.prog Try.f3 false true false false) := by
  refine returnsInHanded_of_change (C := Try.checked) own started (by kernel_rfl) Try.func3
    (ChangeSpec.witness6 (enc := enc) (C := Try.checked) false ⟨#[], #[.string ByteArray.empty, .string ByteArray.empty], []⟩ 8 (by kernel_rfl) (by kernel_rfl) (by kernel_rfl) (by kernel_rfl)) ?_
  intro W base args ds gs before hval0 hW hcnd _
  have hval : ∀ (j : Nat) t v, Try.f3.params[j]? = some t → args[j]? = some v → Value.okWide Try.prog W .any base t v := hval0
  have hW' := hW
  obtain ⟨p, q, hA0, hV, rfl, hfz, hnd⟩ := hW
  have hA : DataW.TrodAll enc Try.prog W 0 (fun _ => true) true Try.f3.params.toList args.toList ds p := hA0
  rw [Try.params3] at hA hval
  obtain ⟨v0, vs0, d0, ds0, p0, q0, hargs, rfl, rfl, h0, r0⟩ := trodAll_cons hA
  obtain ⟨v1, vs1, d1, ds1, p1, q1, rfl, rfl, rfl, h1, r1⟩ := trodAll_cons r0
  obtain ⟨rfl, rfl, rfl⟩ := trodAll_nil r1
  obtain rfl : args = #[v0, v1] := by cases args; simp_all
  obtain ⟨rfl, rfl⟩ := trodVars_none hV
  obtain ⟨a0, rfl, rfl, rfl, w0⟩ := open_string Try.underlying9 (hval 0 9 v0 rfl rfl) h0
  obtain ⟨a1, rfl, rfl, rfl, w1⟩ := open_string Try.underlying9 (hval 1 9 v1 rfl rfl) h1
  clear hA0 hval0
  refine (walk a0 a1 w0 w1 W).mono fun e W' ⟨he, bel⟩ => ?_
  subst he
  exact ⟨_, rfl, _, _, _, [], _, [], hW', trodAll_mk1 (shut_bool Try.underlying4 _), (trodAll_cons_mk (shut_string Try.underlying9 w0) (trodAll_cons_mk (shut_string Try.underlying9 w1) trodAll_mk0)), rfl, bel.frame _, fun h => by cases h⟩

theorem over : Rows.fnUnderIsPartPrefixRow.holds Try.pinned (OpenSpec.ofChange Rows.fnUnderIsPartPrefixSpec) :=
  OpenClaim.holds_of_wide 3 Try.f3 rfl rfl rfl rfl rfl rfl rfl ⟨rfl, rfl, rfl, rfl, rfl⟩ rfl rfl rfl rfl rfl (by kernel_rfl) Try.func3 (by kernel_rfl)
    (of_decide_eq_true (by kernel_rfl)) (by unfold Func.isWrapper; first | (rw [if_pos (by decide +kernel)]; kernel_rfl) | (rw [if_neg (by decide +kernel)]; exact ⟨rfl, rfl⟩))
    (fun os started H enc _ => lifted os started H enc)

/-- ████ THE STATEMENT ████ -/
theorem proved : Rows.FnUnderIsPartPrefixSaid :=
  over
end Go.Proofs.Qxb6618397a.fnUnderIsPartPrefix

namespace Go.Proofs.Qxb6618397a
theorem partByPart_proved : Rows.FnUnderIsPartPrefixSaid := fnUnderIsPartPrefix.proved
end Go.Proofs.Qxb6618397a
