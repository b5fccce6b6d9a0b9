/-
  No cell of these rows narrows 'for every input' (looked for: loops, veiled, ifaces, maps, wideKeys, modest, calm, conditions, laid).
  DERIVED. THE GIVEN ROWS OF THIS SEAT. 1 by the template 'for every input the law returns true; each argument reads behind the call as it read before'; 0 by the template 'total and deterministic' (their statements: Qxb6618284aTotals.lean).
  GIVEN WITH THE SEED: the statements are not yours to turn. If you find one false, say at which input.
  Laid BY PROGRAM, IN A SANDBOX (cutbox-rows.mjs): the forced cells as the released guide's own fill.sh prints them over the translation 843a57a0796c914b… (all of the seat's roots in one cut). By AI agents, Wed Nov 11 2026. No macro, syntax, notation, axiom, sorry.
-/
import Derived.Test.Qxb6618284aChecked
import GoSem.Claim
import GoSem.ClaimJoined
import GoSem.ClaimMapViews
import Derived.JoinedTies
import Derived.KernelRfl
namespace Go.Proofs.Qxb6618284a
/- THE CELL 'sum', in the pinned program and in every row, IS THE sha256 OF THE DUMP (.gsa) THAT Qxb6618284aProg.lean LOADS. Nothing in Lean hashes anything: it is a label: what it is worth is what the hold of that sum in a sandbox is worth. -/
noncomputable def Try.pinned : Pinned := { name := "qxb6618284a", sum := "843a57a0796c914b8e3e92104a51277ba37b93b33d6fdd527adf21233d4337d4", checked := Try.checked }
namespace Rows
def none {H : Type} : Left H := { results := [], args := [] }

/-- 'zzlaws_authz_b1.FnBranchSameExactlyWhenEqualOrBothNone': WHATEVER THE INPUT: true; the input reads as it did. -/
def fnBranchSameExactlyWhenEqualOrBothNoneSpec : ChangeSpec := { name := "fnBranchSameExactlyWhenEqualOrBothNone", fn := fun _ => fun
  | [d1, d2] => { results := [.lit (.bool true)], args := [d1, d2] }
  | _ => none }
def fnBranchSameExactlyWhenEqualOrBothNoneRow : OpenClaim := { program := "qxb6618284a", sum := "843a57a0796c914b8e3e92104a51277ba37b93b33d6fdd527adf21233d4337d4", func := "example.com/fullmakt/fullmakt/zzlaws_authz_b1.FnBranchSameExactlyWhenEqualOrBothNone", spec := "fnBranchSameExactlyWhenEqualOrBothNone", apart := false }
def FnBranchSameExactlyWhenEqualOrBothNoneSaid : Prop := fnBranchSameExactlyWhenEqualOrBothNoneRow.holds Try.pinned (OpenSpec.ofChange fnBranchSameExactlyWhenEqualOrBothNoneSpec)

/-- ITS FALSE NEIGHBOUR: 'it returns false'. Refute it at one input. -/
def fnBranchSameExactlyWhenEqualOrBothNoneWrong : ChangeSpec := { name := "fnBranchSameExactlyWhenEqualOrBothNone", fn := fun _ => fun
  | [d1, d2] => { results := [.lit (.bool false)], args := [d1, d2] }
  | _ => none }
def FnBranchSameExactlyWhenEqualOrBothNoneWrongFalsely : Prop := fnBranchSameExactlyWhenEqualOrBothNoneRow.holds Try.pinned (OpenSpec.ofChange fnBranchSameExactlyWhenEqualOrBothNoneWrong)

end Rows
end Go.Proofs.Qxb6618284a
