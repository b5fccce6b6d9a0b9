/-
  No cell of these rows narrows 'for every input' (looked for: loops, veiled, ifaces, maps, wideKeys, modest, calm, conditions, laid).
  DERIVED. THE GIVEN ROWS OF THIS SEAT. 2 by the template 'for every input the law returns true; each argument reads behind the call as it read before'; 0 by the template 'total and deterministic' (their statements: Qxb6617745aTotals.lean).
  GIVEN WITH THE SEED: the statements are not yours to turn. If you find one false, say at which input.
  Laid BY PROGRAM, IN A SANDBOX (cutbox-rows.mjs): the forced cells as the released guide's own fill.sh prints them over the translation 32bc268c530d8f23… (all of the seat's roots in one cut). By AI agents, Wed Nov 11 2026. No macro, syntax, notation, axiom, sorry.
-/
import Derived.Test.Qxb6617745aChecked
import GoSem.Claim
import GoSem.ClaimJoined
import GoSem.ClaimMapViews
import Derived.JoinedTies
import Derived.KernelRfl
namespace Go.Proofs.Qxb6617745a
/- THE CELL 'sum', in the pinned program and in every row, IS THE sha256 OF THE DUMP (.gsa) THAT Qxb6617745aProg.lean LOADS. Nothing in Lean hashes anything: it is a label: what it is worth is what the hold of that sum in a sandbox is worth. -/
noncomputable def Try.pinned : Pinned := { name := "qxb6617745a", sum := "32bc268c530d8f23b4b28a5c6cda41178fffd8cf3e397e13a3bc3a1cf84159e8", checked := Try.checked }
namespace Rows
def none {H : Type} : Left H := { results := [], args := [] }

/-- 'zzlaws_registry_b1.FnSubInvertsAddition': WHATEVER THE INPUT: true; the input reads as it did. -/
def fnSubInvertsAdditionSpec : ChangeSpec := { name := "fnSubInvertsAddition", fn := fun _ => fun
  | [d1, d2, d3, d4] => { results := [.lit (.bool true)], args := [d1, d2, d3, d4] }
  | _ => none }
def fnSubInvertsAdditionRow : OpenClaim := { program := "qxb6617745a", sum := "32bc268c530d8f23b4b28a5c6cda41178fffd8cf3e397e13a3bc3a1cf84159e8", func := "example.com/regquery/regquery/zzlaws_registry_b1.FnSubInvertsAddition", spec := "fnSubInvertsAddition", apart := false }
def FnSubInvertsAdditionSaid : Prop := fnSubInvertsAdditionRow.holds Try.pinned (OpenSpec.ofChange fnSubInvertsAdditionSpec)

/-- ITS FALSE NEIGHBOUR: 'it returns false'. Refute it at one input. -/
def fnSubInvertsAdditionWrong : ChangeSpec := { name := "fnSubInvertsAddition", fn := fun _ => fun
  | [d1, d2, d3, d4] => { results := [.lit (.bool false)], args := [d1, d2, d3, d4] }
  | _ => none }
def FnSubInvertsAdditionWrongFalsely : Prop := fnSubInvertsAdditionRow.holds Try.pinned (OpenSpec.ofChange fnSubInvertsAdditionWrong)

/-- 'zzlaws_registry_b1.FnSubSpansAdd': WHATEVER THE INPUT: true; the input reads as it did. -/
def fnSubSpansAddSpec : ChangeSpec := { name := "fnSubSpansAdd", fn := fun _ => fun
  | [d1, d2, d3, d4, d5, d6] => { results := [.lit (.bool true)], args := [d1, d2, d3, d4, d5, d6] }
  | _ => none }
def fnSubSpansAddRow : OpenClaim := { program := "qxb6617745a", sum := "32bc268c530d8f23b4b28a5c6cda41178fffd8cf3e397e13a3bc3a1cf84159e8", func := "example.com/regquery/regquery/zzlaws_registry_b1.FnSubSpansAdd", spec := "fnSubSpansAdd", apart := false }
def FnSubSpansAddSaid : Prop := fnSubSpansAddRow.holds Try.pinned (OpenSpec.ofChange fnSubSpansAddSpec)

/-- ITS FALSE NEIGHBOUR: 'it returns false'. Refute it at one input. -/
def fnSubSpansAddWrong : ChangeSpec := { name := "fnSubSpansAdd", fn := fun _ => fun
  | [d1, d2, d3, d4, d5, d6] => { results := [.lit (.bool false)], args := [d1, d2, d3, d4, d5, d6] }
  | _ => none }
def FnSubSpansAddWrongFalsely : Prop := fnSubSpansAddRow.holds Try.pinned (OpenSpec.ofChange fnSubSpansAddWrong)

end Rows
end Go.Proofs.Qxb6617745a
