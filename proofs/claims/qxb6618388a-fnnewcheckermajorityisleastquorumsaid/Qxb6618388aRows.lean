/-
  No cell of these rows narrows 'for every input' (looked for: loops, veiled, ifaces, maps, wideKeys, modest, calm, conditions, laid).
  DERIVED. THE GIVEN ROWS OF THIS SEAT. 1 by the template 'for every input the law returns true; each argument reads behind the call as it read before'; 0 by the template 'total and deterministic' (their statements: Qxb6618388aTotals.lean).
  GIVEN WITH THE SEED: the statements are not yours to turn. If you find one false, say at which input.
  Laid BY PROGRAM, IN A SANDBOX (cutbox-rows.mjs): the forced cells as the released guide's own fill.sh prints them over the translation 77cd33227dcd7359… (all of the seat's roots in one cut). By AI agents, Wed Nov 11 2026. No macro, syntax, notation, axiom, sorry.
-/
import Derived.Test.Qxb6618388aChecked
import GoSem.Claim
import GoSem.ClaimJoined
import GoSem.ClaimMapViews
import Derived.JoinedTies
import Derived.KernelRfl
namespace Go.Proofs.Qxb6618388a
/- THE CELL 'sum', in the pinned program and in every row, IS THE sha256 OF THE DUMP (.gsa) THAT Qxb6618388aProg.lean LOADS. Nothing in Lean hashes anything: it is a label: what it is worth is what the hold of that sum in a sandbox is worth. -/
noncomputable def Try.pinned : Pinned := { name := "qxb6618388a", sum := "77cd33227dcd7359499910f748d30c3020d86ef3d9f3dc96c512770f8a550280", checked := Try.checked }
namespace Rows
def none {H : Type} : Left H := { results := [], args := [] }

/-- 'zzlaws_sim_b1.FnNewCheckerMajorityIsLeastQuorum': WHATEVER THE INPUT: true; the input reads as it did. -/
def fnNewCheckerMajorityIsLeastQuorumSpec : ChangeSpec := { name := "fnNewCheckerMajorityIsLeastQuorum", fn := fun _ => fun
  | [d] => { results := [.lit (.bool true)], args := [d] }
  | _ => none }
def fnNewCheckerMajorityIsLeastQuorumRow : OpenClaim := { program := "qxb6618388a", sum := "77cd33227dcd7359499910f748d30c3020d86ef3d9f3dc96c512770f8a550280", func := "example.com/synod/synod/zzlaws_sim_b1.FnNewCheckerMajorityIsLeastQuorum", spec := "fnNewCheckerMajorityIsLeastQuorum", plainKeys := false, apart := false }
def FnNewCheckerMajorityIsLeastQuorumSaid : Prop := fnNewCheckerMajorityIsLeastQuorumRow.holds Try.pinned (OpenSpec.ofChange fnNewCheckerMajorityIsLeastQuorumSpec)

/-- ITS FALSE NEIGHBOUR: 'it returns false'. Refute it at one input. -/
def fnNewCheckerMajorityIsLeastQuorumWrong : ChangeSpec := { name := "fnNewCheckerMajorityIsLeastQuorum", fn := fun _ => fun
  | [d] => { results := [.lit (.bool false)], args := [d] }
  | _ => none }
def FnNewCheckerMajorityIsLeastQuorumWrongFalsely : Prop := fnNewCheckerMajorityIsLeastQuorumRow.holds Try.pinned (OpenSpec.ofChange fnNewCheckerMajorityIsLeastQuorumWrong)

end Rows
end Go.Proofs.Qxb6618388a
