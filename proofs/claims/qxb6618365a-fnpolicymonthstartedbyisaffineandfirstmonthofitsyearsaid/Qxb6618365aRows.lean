/-
  No cell of these rows narrows 'for every input' (looked for: loops, veiled, ifaces, maps, wideKeys, modest, calm, conditions, laid).
  DERIVED. THE GIVEN ROWS OF THIS SEAT. 1 by the template 'for every input the law returns true; each argument reads behind the call as it read before'; 0 by the template 'total and deterministic' (their statements: Qxb6618365aTotals.lean).
  GIVEN WITH THE SEED: the statements are not yours to turn. If you find one false, say at which input.
  Laid BY PROGRAM, IN A SANDBOX (cutbox-rows.mjs): the forced cells as the released guide's own fill.sh prints them over the translation 35120b6ba0478876… (all of the seat's roots in one cut). By AI agents, Wed Nov 11 2026. No macro, syntax, notation, axiom, sorry.
-/
import Derived.Test.Qxb6618365aChecked
import GoSem.Claim
import GoSem.ClaimJoined
import GoSem.ClaimMapViews
import Derived.JoinedTies
import Derived.KernelRfl
namespace Go.Proofs.Qxb6618365a
/- THE CELL 'sum', in the pinned program and in every row, IS THE sha256 OF THE DUMP (.gsa) THAT Qxb6618365aProg.lean LOADS. Nothing in Lean hashes anything: it is a label: what it is worth is what the hold of that sum in a sandbox is worth. -/
noncomputable def Try.pinned : Pinned := { name := "qxb6618365a", sum := "35120b6ba0478876f328de89592edd2944fc0eb769326f284dc8f31c93cb0a24", checked := Try.checked }
namespace Rows
def none {H : Type} : Left H := { results := [], args := [] }

/-- 'zzlaws_pkg_calendar_b1.FnPolicyMonthStartedByIsAffineAndFirstMonthOfItsYear': WHATEVER THE INPUT: true; the input reads as it did. -/
def fnPolicyMonthStartedByIsAffineAndFirstMonthOfItsYearSpec : ChangeSpec := { name := "fnPolicyMonthStartedByIsAffineAndFirstMonthOfItsYear", fn := fun _ => fun
  | [d1, d2] => { results := [.lit (.bool true)], args := [d1, d2] }
  | _ => none }
def fnPolicyMonthStartedByIsAffineAndFirstMonthOfItsYearRow : OpenClaim := { program := "qxb6618365a", sum := "35120b6ba0478876f328de89592edd2944fc0eb769326f284dc8f31c93cb0a24", func := "example.com/jeokrip/jeokrip/zzlaws_pkg_calendar_b1.FnPolicyMonthStartedByIsAffineAndFirstMonthOfItsYear", spec := "fnPolicyMonthStartedByIsAffineAndFirstMonthOfItsYear", apart := false }
def FnPolicyMonthStartedByIsAffineAndFirstMonthOfItsYearSaid : Prop := fnPolicyMonthStartedByIsAffineAndFirstMonthOfItsYearRow.holds Try.pinned (OpenSpec.ofChange fnPolicyMonthStartedByIsAffineAndFirstMonthOfItsYearSpec)

/-- ITS FALSE NEIGHBOUR: 'it returns false'. Refute it at one input. -/
def fnPolicyMonthStartedByIsAffineAndFirstMonthOfItsYearWrong : ChangeSpec := { name := "fnPolicyMonthStartedByIsAffineAndFirstMonthOfItsYear", fn := fun _ => fun
  | [d1, d2] => { results := [.lit (.bool false)], args := [d1, d2] }
  | _ => none }
def FnPolicyMonthStartedByIsAffineAndFirstMonthOfItsYearWrongFalsely : Prop := fnPolicyMonthStartedByIsAffineAndFirstMonthOfItsYearRow.holds Try.pinned (OpenSpec.ofChange fnPolicyMonthStartedByIsAffineAndFirstMonthOfItsYearWrong)

end Rows
end Go.Proofs.Qxb6618365a
