/-
  A PROOF OF 'Rows.FnNewCheckerMajorityIsLeastQuorumSaid' ('example.com/synod/synod/zzlaws_sim_b1.FnNewCheckerMajorityIsLeastQuorum'), WRITTEN BY PROGRAM (proof-skeleton.mjs) off the guide's own print for that function. Not trusted: Lean checks it.
  The walk is filled by hand; the row's step is the guide's, with 'Below' for what the call leaves of old memory.
-/
import Derived.Test.Qxb6618388aZZ
import Derived.WalkKit
import Derived.ProofKit
import Derived.OpenShut
import Derived.ShutString
import Derived.Below
namespace Go.Proofs.Qxb6618388a.fnNewCheckerMajorityIsLeastQuorum
open Go.ChangeShapes Go.WideShapes Go.ChangeAt Go.RowKit
open Go.ChangeMaps (open_string shut_string)
set_option linter.unusedVariables false      -- a walk need not use every 'w<i>' (that an integer argument fits its kind)

theorem own : ownKnob Try.prog.godebug = none := by kernel_rfl

/-! ### STEP 1: THE WALK -/
set_option maxHeartbeats 4000000 in
set_option maxRecDepth 100000 in
theorem walk (a0 : Int) (w0 : (Lit.int .i64 a0).wf = true) (w : World) :
    Calls Try.prog 3 #[.int .i64 a0] w fun e w' => e = .returned (.bool true) ∧ Below w.heap.size w w' := by
  have hmax : a0 ≤ 9223372036854775807 := (bounds_i64 w0).2
  clear w0
  by_cases hneg : a0 < 0
  · go_enter Try.func3, Try.ntmps3
    go_wp2
    go_ret
    exact ⟨rfl, Below.refl _ _⟩
  have q22 : ∀ (w : World) (r : Option Nat), (binOp .eql 22 (.map r) (.map none)).run Try.prog w = .ok (.bool r.isNone) w := fun w r => run_eql_map_nil w _ _ _ r Try.underlying22
  have q23 : ∀ (w : World) (r : Option Nat), (binOp .eql 23 (.map r) (.map none)).run Try.prog w = .ok (.bool r.isNone) w := fun w r => run_eql_map_nil w _ _ _ r Try.underlying23
  have q24 : ∀ (w : World) (r : Option Nat), (binOp .eql 24 (.map r) (.map none)).run Try.prog w = .ok (.bool r.isNone) w := fun w r => run_eql_map_nil w _ _ _ r Try.underlying24
  have q25 : ∀ (w : World) (r : Option Nat), (binOp .eql 25 (.map r) (.map none)).run Try.prog w = .ok (.bool r.isNone) w := fun w r => run_eql_map_nil w _ _ _ r Try.underlying25
  have q26 : ∀ (w : World) (r : Option Nat), (binOp .eql 26 (.map r) (.map none)).run Try.prog w = .ok (.bool r.isNone) w := fun w r => run_eql_map_nil w _ _ _ r Try.underlying26
  have q27 : ∀ (w : World) (r : Option Nat), (binOp .eql 27 (.map r) (.map none)).run Try.prog w = .ok (.bool r.isNone) w := fun w r => run_eql_map_nil w _ _ _ r Try.underlying27
  have q28 : ∀ (w : World) (r : Option Nat), (binOp .eql 28 (.map r) (.map none)).run Try.prog w = .ok (.bool r.isNone) w := fun w r => run_eql_map_nil w _ _ _ r Try.underlying28
  have cn := new4 a0 w (by omega) hmax
  obtain ⟨m, hm⟩ : ∃ m, m = a0 / 2 + 1 := ⟨_, rfl⟩
  rw [← hm] at cn
  have m1 : 1 ≤ m := by omega
  have m2 : a0 < 2 * m := by omega
  have m3 : 2 * m ≤ a0 + 2 := by omega
  have HC : Hid (Calls Try.prog 4 #[.int .i64 a0] w (Made m w)) := cn
  clear cn hm
  go_enter Try.func3, Try.ntmps3
  go_wp2_with fail
  refine HC.out.mono ?_
  clear HC
  rintro e w1 ⟨b1, b2, b3, b4, b5, b6, b7, b8, rfl, hmaps, hbel⟩
  have e1 : ∀ (ty : TypeId) (o : Obj), (Builtin.len_ #[22] ty #[.map (some b1)]).run Try.prog (w1.alloc o) = .ok (goInt 0) (w1.alloc o) := fun ty o => run_len_map (w1.alloc o) 22 ty b1 #[] 0 (by kernel_rfl) (hmaps.here b1 (by simp) o)
  have e2 : ∀ (ty : TypeId) (o : Obj), (Builtin.len_ #[23] ty #[.map (some b2)]).run Try.prog (w1.alloc o) = .ok (goInt 0) (w1.alloc o) := fun ty o => run_len_map (w1.alloc o) 23 ty b2 #[] 0 (by kernel_rfl) (hmaps.here b2 (by simp) o)
  have e3 : ∀ (ty : TypeId) (o : Obj), (Builtin.len_ #[24] ty #[.map (some b3)]).run Try.prog (w1.alloc o) = .ok (goInt 0) (w1.alloc o) := fun ty o => run_len_map (w1.alloc o) 24 ty b3 #[] 0 (by kernel_rfl) (hmaps.here b3 (by simp) o)
  have e4 : ∀ (ty : TypeId) (o : Obj), (Builtin.len_ #[25] ty #[.map (some b4)]).run Try.prog (w1.alloc o) = .ok (goInt 0) (w1.alloc o) := fun ty o => run_len_map (w1.alloc o) 25 ty b4 #[] 0 (by kernel_rfl) (hmaps.here b4 (by simp) o)
  have e5 : ∀ (ty : TypeId) (o : Obj), (Builtin.len_ #[26] ty #[.map (some b5)]).run Try.prog (w1.alloc o) = .ok (goInt 0) (w1.alloc o) := fun ty o => run_len_map (w1.alloc o) 26 ty b5 #[] 0 (by kernel_rfl) (hmaps.here b5 (by simp) o)
  have e6 : ∀ (ty : TypeId) (o : Obj), (Builtin.len_ #[24] ty #[.map (some b6)]).run Try.prog (w1.alloc o) = .ok (goInt 0) (w1.alloc o) := fun ty o => run_len_map (w1.alloc o) 24 ty b6 #[] 0 (by kernel_rfl) (hmaps.here b6 (by simp) o)
  have e7 : ∀ (ty : TypeId) (o : Obj), (Builtin.len_ #[27] ty #[.map (some b7)]).run Try.prog (w1.alloc o) = .ok (goInt 0) (w1.alloc o) := fun ty o => run_len_map (w1.alloc o) 27 ty b7 #[] 0 (by kernel_rfl) (hmaps.here b7 (by simp) o)
  have e8 : ∀ (ty : TypeId) (o : Obj), (Builtin.len_ #[28] ty #[.map (some b8)]).run Try.prog (w1.alloc o) = .ok (goInt 0) (w1.alloc o) := fun ty o => run_len_map (w1.alloc o) 28 ty b8 #[] 0 (by kernel_rfl) (hmaps.here b8 (by simp) o)
  have d1 : decide (a0 - m < m) = true := decide_eq_true (by omega)
  have d2 : decide (m - 1 ≤ a0 - (m - 1)) = true := decide_eq_true (by omega)
  have HB : Hid (Below w.heap.size w w1) := hbel
  clear hmaps hbel
  go_wp2
  go_ret
  exact ⟨rfl, HB.out.alloc HB.out.size _⟩

/-! ### THE ROW's STEP: WRITTEN OUT: LEAVE IT -/
set_option maxRecDepth 100000 in
theorem lifted (os : Os) (started : os.Started) (H : Type) (enc : TypeId × Value → H) :
    ReturnsInHanded {} Try.checked os 3 .any (Rows.fnNewCheckerMajorityIsLeastQuorumSpec.pre6 enc Try.prog Try.f3 Rows.fnNewCheckerMajorityIsLeastQuorumRow.domain false) (Rows.fnNewCheckerMajorityIsLeastQuorumSpec.post enc Try.prog Try.f3 false true false false) := by
  refine returnsInHanded_of_change (C := Try.checked) own started (by kernel_rfl) Try.func3
    (ChangeSpec.witness6 (enc := enc) (C := Try.checked) false ⟨#[], #[.int .i64 0], []⟩ 8 (by kernel_rfl) (by kernel_rfl) (by kernel_rfl) (by kernel_rfl)) ?_
  intro W base args ds gs before hval0 hW hcnd _
  have hval : ∀ (j : Nat) t v, Try.f3.params[j]? = some t → args[j]? = some v → Value.okWide Try.prog W .any base t v := hval0
  have hW' := hW
  obtain ⟨p, q, hA0, hV, rfl, hfz, hnd⟩ := hW
  have hA : DataW.TrodAll enc Try.prog W 0 (fun _ => true) true Try.f3.params.toList args.toList ds p := hA0
  rw [Try.params3] at hA hval
  obtain ⟨v0, vs0, d0, ds0, p0, q0, hargs, rfl, rfl, h0, r0⟩ := trodAll_cons hA
  obtain ⟨rfl, rfl, rfl⟩ := trodAll_nil r0
  obtain rfl : args = #[v0] := by cases args; simp_all
  obtain ⟨rfl, rfl⟩ := trodVars_none hV
  obtain ⟨a0, rfl, rfl, rfl, w0⟩ := open_int Try.underlying3 (hval 0 3 v0 rfl rfl) h0
  clear hA0 hval0
  refine (walk a0 w0 W).mono fun e W' ⟨he, bel⟩ => ?_
  subst he
  exact ⟨_, rfl, _, _, _, [], _, [], hW', trodAll_mk1 (shut_bool Try.underlying4 _), (trodAll_cons_mk (shut_int Try.underlying3 w0) trodAll_mk0), rfl, bel.frame _, fun h => by cases h⟩

theorem over : Rows.fnNewCheckerMajorityIsLeastQuorumRow.holds Try.pinned (OpenSpec.ofChange Rows.fnNewCheckerMajorityIsLeastQuorumSpec) :=
  OpenClaim.holds_of_wide 3 Try.f3 rfl rfl rfl rfl rfl rfl rfl ⟨rfl, rfl, rfl, rfl, rfl⟩ rfl rfl rfl rfl rfl (by kernel_rfl) Try.func3 (by kernel_rfl)
    (of_decide_eq_true (by kernel_rfl)) (by unfold Func.isWrapper; first | (rw [if_pos (by decide +kernel)]; kernel_rfl) | (rw [if_neg (by decide +kernel)]; exact ⟨rfl, rfl⟩))
    (fun os started H enc _ => lifted os started H enc)

/-- ████ THE STATEMENT ████ -/
theorem proved : Rows.FnNewCheckerMajorityIsLeastQuorumSaid :=
  over
end Go.Proofs.Qxb6618388a.fnNewCheckerMajorityIsLeastQuorum

namespace Go.Proofs.Qxb6618388a
theorem leastQuorum_proved : Rows.FnNewCheckerMajorityIsLeastQuorumSaid := fnNewCheckerMajorityIsLeastQuorum.proved
end Go.Proofs.Qxb6618388a
