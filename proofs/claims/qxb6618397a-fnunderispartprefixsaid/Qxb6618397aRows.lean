/-
  No cell of these rows narrows 'for every input' (looked for: loops, veiled, ifaces, maps, wideKeys, modest, calm, conditions, laid).
  DERIVED. THE GIVEN ROWS OF THIS SEAT. 2 by the template 'for every input the law returns true; each argument reads behind the call as it read before'; 0 by the template 'total and deterministic' (their statements: Qxb6618397aTotals.lean).
  GIVEN WITH THE SEED: the statements are not yours to turn. If you find one false, say at which input.
  Laid BY PROGRAM, IN A SANDBOX (cutbox-rows.mjs): the forced cells as the released guide's own fill.sh prints them over the translation b1ab97ab0ba481f3… (all of the seat's roots in one cut). By AI agents, Wed Nov 11 2026. No macro, syntax, notation, axiom, sorry.
-/
import Derived.Test.Qxb6618397aChecked
import GoSem.Claim
import GoSem.ClaimJoined
import GoSem.ClaimMapViews
import Derived.JoinedTies
import Derived.KernelRfl
namespace Go.Proofs.Qxb6618397a
/- THE CELL 'sum', in the pinned program and in every row, IS THE sha256 OF THE DUMP (.gsa) THAT Qxb6618397aProg.lean LOADS. Nothing in Lean hashes anything: it is a label: what it is worth is what the hold of that sum in a sandbox is worth. -/
noncomputable def Try.pinned : Pinned := { name := "qxb6618397a", sum := "b1ab97ab0ba481f39d3561167a53cbeef95f954b9e51569773f14c9d8a6250b5", checked := Try.checked }
namespace Rows
def none {H : Type} : Left H := { results := [], args := [] }

/-- 'zzlaws_internal_allowlist_b1.FnUnderIsPartPrefix': WHATEVER THE INPUT: true; the input reads as it did. -/
def fnUnderIsPartPrefixSpec : ChangeSpec := { name := "fnUnderIsPartPrefix", fn := fun _ => fun
  | [d1, d2] => { results := [.lit (.bool true)], args := [d1, d2] }
  | _ => none }
def fnUnderIsPartPrefixRow : OpenClaim := { program := "qxb6618397a", sum := "b1ab97ab0ba481f39d3561167a53cbeef95f954b9e51569773f14c9d8a6250b5", func := "example.com/quartermaster/quartermaster/zzlaws_internal_allowlist_b1.FnUnderIsPartPrefix", spec := "fnUnderIsPartPrefix", apart := false }
def FnUnderIsPartPrefixSaid : Prop := fnUnderIsPartPrefixRow.holds Try.pinned (OpenSpec.ofChange fnUnderIsPartPrefixSpec)

/-- ITS FALSE NEIGHBOUR: 'it returns false'. Refute it at one input. -/
def fnUnderIsPartPrefixWrong : ChangeSpec := { name := "fnUnderIsPartPrefix", fn := fun _ => fun
  | [d1, d2] => { results := [.lit (.bool false)], args := [d1, d2] }
  | _ => none }
def FnUnderIsPartPrefixWrongFalsely : Prop := fnUnderIsPartPrefixRow.holds Try.pinned (OpenSpec.ofChange fnUnderIsPartPrefixWrong)

/-- 'zzlaws_internal_allowlist_b1.FnUnderCommonParent': WHATEVER THE INPUT: true; the input reads as it did. -/
def fnUnderCommonParentSpec : ChangeSpec := { name := "fnUnderCommonParent", fn := fun _ => fun
  | [d1, d2, d3] => { results := [.lit (.bool true)], args := [d1, d2, d3] }
  | _ => none }
def fnUnderCommonParentRow : OpenClaim := { program := "qxb6618397a", sum := "b1ab97ab0ba481f39d3561167a53cbeef95f954b9e51569773f14c9d8a6250b5", func := "example.com/quartermaster/quartermaster/zzlaws_internal_allowlist_b1.FnUnderCommonParent", spec := "fnUnderCommonParent", apart := false }
def FnUnderCommonParentSaid : Prop := fnUnderCommonParentRow.holds Try.pinned (OpenSpec.ofChange fnUnderCommonParentSpec)

/-- ITS FALSE NEIGHBOUR: 'it returns false'. Refute it at one input. -/
def fnUnderCommonParentWrong : ChangeSpec := { name := "fnUnderCommonParent", fn := fun _ => fun
  | [d1, d2, d3] => { results := [.lit (.bool false)], args := [d1, d2, d3] }
  | _ => none }
def FnUnderCommonParentWrongFalsely : Prop := fnUnderCommonParentRow.holds Try.pinned (OpenSpec.ofChange fnUnderCommonParentWrong)

end Rows
end Go.Proofs.Qxb6618397a
