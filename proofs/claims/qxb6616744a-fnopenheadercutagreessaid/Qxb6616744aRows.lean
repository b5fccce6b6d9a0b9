/-
  No cell of these rows narrows 'for every input' (looked for: loops, veiled, ifaces, maps, wideKeys, modest, calm, conditions, laid).
  DERIVED. THE GIVEN ROWS OF THIS SEAT. 1 by the template 'for every input the law returns true; each argument reads behind the call as it read before'; 0 by the template 'total and deterministic' (their statements: Qxb6616744aTotals.lean).
  GIVEN WITH THE SEED: the statements are not yours to turn. If you find one false, say at which input.
  Laid BY PROGRAM, IN A SANDBOX (cutbox-rows.mjs): the forced cells as the released guide's own fill.sh prints them over the translation 7d569b56cbc109bc… (all of the seat's roots in one cut). By AI agents, Wed Nov 11 2026. No macro, syntax, notation, axiom, sorry.
-/
import Derived.Test.Qxb6616744aChecked
import GoSem.Claim
import GoSem.ClaimJoined
import GoSem.ClaimMapViews
import Derived.JoinedTies
import Derived.KernelRfl
namespace Go.Proofs.Qxb6616744a
/- THE CELL 'sum', in the pinned program and in every row, IS THE sha256 OF THE DUMP (.gsa) THAT Qxb6616744aProg.lean LOADS. Nothing in Lean hashes anything: it is a label: what it is worth is what the hold of that sum in a sandbox is worth. -/
noncomputable def Try.pinned : Pinned := { name := "qxb6616744a", sum := "7d569b56cbc109bce9fee317949fa43e287669d26d4a4df8b214d9d6b5411c54", checked := Try.checked }
namespace Rows
def none {H : Type} : Left H := { results := [], args := [] }

/-- 'zzlaws_pkg_plan_b1.FnOpenHeaderCutAgrees': WHATEVER THE INPUT: true; the input reads as it did. -/
def fnOpenHeaderCutAgreesSpec : ChangeSpec := { name := "fnOpenHeaderCutAgrees", fn := fun _ => fun
  | [d1, d2, d3, d4, d5, d6, d7, d8, d9] => { results := [.lit (.bool true)], args := [d1, d2, d3, d4, d5, d6, d7, d8, d9] }
  | _ => none }
def fnOpenHeaderCutAgreesRow : OpenClaim := { program := "qxb6616744a", sum := "7d569b56cbc109bce9fee317949fa43e287669d26d4a4df8b214d9d6b5411c54", func := "example.com/vestledger/vestledger/zzlaws_pkg_plan_b1.FnOpenHeaderCutAgrees", spec := "fnOpenHeaderCutAgrees", apart := false }
def FnOpenHeaderCutAgreesSaid : Prop := fnOpenHeaderCutAgreesRow.holds Try.pinned (OpenSpec.ofChange fnOpenHeaderCutAgreesSpec)

/-- ITS FALSE NEIGHBOUR: 'it returns false'. Refute it at one input. -/
def fnOpenHeaderCutAgreesWrong : ChangeSpec := { name := "fnOpenHeaderCutAgrees", fn := fun _ => fun
  | [d1, d2, d3, d4, d5, d6, d7, d8, d9] => { results := [.lit (.bool false)], args := [d1, d2, d3, d4, d5, d6, d7, d8, d9] }
  | _ => none }
def FnOpenHeaderCutAgreesWrongFalsely : Prop := fnOpenHeaderCutAgreesRow.holds Try.pinned (OpenSpec.ofChange fnOpenHeaderCutAgreesWrong)

end Rows
end Go.Proofs.Qxb6616744a
