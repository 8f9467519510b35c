/-
  No cell of these rows narrows 'for every input' (looked for: loops, veiled, ifaces, maps, wideKeys, modest, calm, conditions, laid).
  DERIVED. THE GIVEN ROWS OF THIS SEAT. 2 by the template 'for every input the law returns true; each argument reads behind the call as it read before'; 0 by the template 'total and deterministic' (their statements: Qxb6618263aTotals.lean).
  GIVEN WITH THE SEED: the statements are not yours to turn. If you find one false, say at which input.
  Laid BY PROGRAM, IN A SANDBOX (cutbox-rows.mjs): the forced cells as the released guide's own fill.sh prints them over the translation cdb9f655a52bfde4… (all of the seat's roots in one cut). By AI agents, Wed Nov 11 2026. No macro, syntax, notation, axiom, sorry.
-/
import Derived.Test.Qxb6618263aChecked
import GoSem.Claim
import GoSem.ClaimJoined
import GoSem.ClaimMapViews
import Derived.JoinedTies
import Derived.KernelRfl
namespace Go.Proofs.Qxb6618263a
/- THE CELL 'sum', in the pinned program and in every row, IS THE sha256 OF THE DUMP (.gsa) THAT Qxb6618263aProg.lean LOADS. Nothing in Lean hashes anything: it is a label: what it is worth is what the hold of that sum in a sandbox is worth. -/
noncomputable def Try.pinned : Pinned := { name := "qxb6618263a", sum := "cdb9f655a52bfde4dd010a1c104eba480503f79f8d059096dccbd5e5f743abe8", checked := Try.checked }
namespace Rows
def none {H : Type} : Left H := { results := [], args := [] }

/-- 'zzlaws_table_b1.FnSameFieldsConsCutAndLength': WHATEVER THE INPUT: true; the input reads as it did. -/
def fnSameFieldsConsCutAndLengthSpec : ChangeSpec := { name := "fnSameFieldsConsCutAndLength", fn := fun _ => fun
  | [d1, d2, d3, d4, d5] => { results := [.lit (.bool true)], args := [d1, d2, d3, d4, d5] }
  | _ => none }
def fnSameFieldsConsCutAndLengthRow : OpenClaim := { program := "qxb6618263a", sum := "cdb9f655a52bfde4dd010a1c104eba480503f79f8d059096dccbd5e5f743abe8", func := "example.com/tuoguan/tuoguan/zzlaws_table_b1.FnSameFieldsConsCutAndLength", spec := "fnSameFieldsConsCutAndLength", apart := false }
def FnSameFieldsConsCutAndLengthSaid : Prop := fnSameFieldsConsCutAndLengthRow.holds Try.pinned (OpenSpec.ofChange fnSameFieldsConsCutAndLengthSpec)

/-- ITS FALSE NEIGHBOUR: 'it returns false'. Refute it at one input. -/
def fnSameFieldsConsCutAndLengthWrong : ChangeSpec := { name := "fnSameFieldsConsCutAndLength", fn := fun _ => fun
  | [d1, d2, d3, d4, d5] => { results := [.lit (.bool false)], args := [d1, d2, d3, d4, d5] }
  | _ => none }
def FnSameFieldsConsCutAndLengthWrongFalsely : Prop := fnSameFieldsConsCutAndLengthRow.holds Try.pinned (OpenSpec.ofChange fnSameFieldsConsCutAndLengthWrong)

/-- 'zzlaws_table_b1.FnSameFieldsEquivalenceAndOneEdit': WHATEVER THE INPUT: true; the input reads as it did. -/
def fnSameFieldsEquivalenceAndOneEditSpec : ChangeSpec := { name := "fnSameFieldsEquivalenceAndOneEdit", fn := fun _ => fun
  | [d1, d2, d3, d4, d5] => { results := [.lit (.bool true)], args := [d1, d2, d3, d4, d5] }
  | _ => none }
def fnSameFieldsEquivalenceAndOneEditRow : OpenClaim := { program := "qxb6618263a", sum := "cdb9f655a52bfde4dd010a1c104eba480503f79f8d059096dccbd5e5f743abe8", func := "example.com/tuoguan/tuoguan/zzlaws_table_b1.FnSameFieldsEquivalenceAndOneEdit", spec := "fnSameFieldsEquivalenceAndOneEdit", apart := false }
def FnSameFieldsEquivalenceAndOneEditSaid : Prop := fnSameFieldsEquivalenceAndOneEditRow.holds Try.pinned (OpenSpec.ofChange fnSameFieldsEquivalenceAndOneEditSpec)

/-- ITS FALSE NEIGHBOUR: 'it returns false'. Refute it at one input. -/
def fnSameFieldsEquivalenceAndOneEditWrong : ChangeSpec := { name := "fnSameFieldsEquivalenceAndOneEdit", fn := fun _ => fun
  | [d1, d2, d3, d4, d5] => { results := [.lit (.bool false)], args := [d1, d2, d3, d4, d5] }
  | _ => none }
def FnSameFieldsEquivalenceAndOneEditWrongFalsely : Prop := fnSameFieldsEquivalenceAndOneEditRow.holds Try.pinned (OpenSpec.ofChange fnSameFieldsEquivalenceAndOneEditWrong)

end Rows
end Go.Proofs.Qxb6618263a
