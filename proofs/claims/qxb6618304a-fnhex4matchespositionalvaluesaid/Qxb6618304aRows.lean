/-
  No cell of these rows narrows 'for every input' (looked for: loops, veiled, ifaces, maps, wideKeys, modest, calm, conditions, laid).
  DERIVED. THE GIVEN ROWS OF THIS SEAT. 2 by the template 'for every input the law returns true; each argument reads behind the call as it read before'; 0 by the template 'total and deterministic' (their statements: Qxb6618304aTotals.lean).
  GIVEN WITH THE SEED: the statements are not yours to turn. If you find one false, say at which input.
  Laid BY PROGRAM, IN A SANDBOX (cutbox-rows.mjs): the forced cells as the released guide's own fill.sh prints them over the translation 13b16d017455dae9… (all of the seat's roots in one cut). By AI agents, Wed Nov 11 2026. No macro, syntax, notation, axiom, sorry.
-/
import Derived.Test.Qxb6618304aChecked
import GoSem.Claim
import GoSem.ClaimJoined
import GoSem.ClaimMapViews
import Derived.JoinedTies
import Derived.KernelRfl
namespace Go.Proofs.Qxb6618304a
/- THE CELL 'sum', in the pinned program and in every row, IS THE sha256 OF THE DUMP (.gsa) THAT Qxb6618304aProg.lean LOADS. Nothing in Lean hashes anything: it is a label: what it is worth is what the hold of that sum in a sandbox is worth. -/
noncomputable def Try.pinned : Pinned := { name := "qxb6618304a", sum := "13b16d017455dae9964fc8c4d0c4d618a9d65743fe755158b9f92ed16272923f", checked := Try.checked }
namespace Rows
def none {H : Type} : Left H := { results := [], args := [] }

/-- 'zzlaws_internal_server_b1.FnHex4MatchesPositionalValue': WHATEVER THE INPUT: true; the input reads as it did. -/
def fnHex4MatchesPositionalValueSpec : ChangeSpec := { name := "fnHex4MatchesPositionalValue", fn := fun _ => fun
  | [d] => { results := [.lit (.bool true)], args := [d] }
  | _ => none }
def fnHex4MatchesPositionalValueRow : OpenClaim := { program := "qxb6618304a", sum := "13b16d017455dae9964fc8c4d0c4d618a9d65743fe755158b9f92ed16272923f", func := "example.com/dpauth/dpauth/zzlaws_internal_server_b1.FnHex4MatchesPositionalValue", spec := "fnHex4MatchesPositionalValue", apart := false }
def FnHex4MatchesPositionalValueSaid : Prop := fnHex4MatchesPositionalValueRow.holds Try.pinned (OpenSpec.ofChange fnHex4MatchesPositionalValueSpec)

/-- ITS FALSE NEIGHBOUR: 'it returns false'. Refute it at one input. -/
def fnHex4MatchesPositionalValueWrong : ChangeSpec := { name := "fnHex4MatchesPositionalValue", fn := fun _ => fun
  | [d] => { results := [.lit (.bool false)], args := [d] }
  | _ => none }
def FnHex4MatchesPositionalValueWrongFalsely : Prop := fnHex4MatchesPositionalValueRow.holds Try.pinned (OpenSpec.ofChange fnHex4MatchesPositionalValueWrong)

/-- 'zzlaws_internal_server_b1.FnHex4SlidingWindow': WHATEVER THE INPUT: true; the input reads as it did. -/
def fnHex4SlidingWindowSpec : ChangeSpec := { name := "fnHex4SlidingWindow", fn := fun _ => fun
  | [d] => { results := [.lit (.bool true)], args := [d] }
  | _ => none }
def fnHex4SlidingWindowRow : OpenClaim := { program := "qxb6618304a", sum := "13b16d017455dae9964fc8c4d0c4d618a9d65743fe755158b9f92ed16272923f", func := "example.com/dpauth/dpauth/zzlaws_internal_server_b1.FnHex4SlidingWindow", spec := "fnHex4SlidingWindow", apart := false }
def FnHex4SlidingWindowSaid : Prop := fnHex4SlidingWindowRow.holds Try.pinned (OpenSpec.ofChange fnHex4SlidingWindowSpec)

/-- ITS FALSE NEIGHBOUR: 'it returns false'. Refute it at one input. -/
def fnHex4SlidingWindowWrong : ChangeSpec := { name := "fnHex4SlidingWindow", fn := fun _ => fun
  | [d] => { results := [.lit (.bool false)], args := [d] }
  | _ => none }
def FnHex4SlidingWindowWrongFalsely : Prop := fnHex4SlidingWindowRow.holds Try.pinned (OpenSpec.ofChange fnHex4SlidingWindowWrong)

end Rows
end Go.Proofs.Qxb6618304a
