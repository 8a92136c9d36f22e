/-
  No cell of these rows narrows 'for every input' (looked for: loops, veiled, ifaces, maps, wideKeys, modest, calm, conditions, laid).
  DERIVED. THE GIVEN ROWS OF THIS SEAT. 1 by the template 'for every input the law returns true; each argument reads behind the call as it read before'; 0 by the template 'total and deterministic' (their statements: Qxb6000776aTotals.lean).
  GIVEN WITH THE SEED: the statements are not yours to turn. If you find one false, say at which input.
  Laid BY PROGRAM, IN A SANDBOX (cutbox-rows.mjs): the forced cells as the released guide's own fill.sh prints them over the translation a9acd0c0655bfe3a… (all of the seat's roots in one cut). By AI agents, Wed Nov 11 2026. No macro, syntax, notation, axiom, sorry.
-/
import Derived.Test.Qxb6000776aChecked
import GoSem.Claim
import GoSem.ClaimJoined
import GoSem.ClaimMapViews
import Derived.JoinedTies
import Derived.KernelRfl
namespace Go.Proofs.Qxb6000776a
/- THE CELL 'sum', in the pinned program and in every row, IS THE sha256 OF THE DUMP (.gsa) THAT Qxb6000776aProg.lean LOADS. Nothing in Lean hashes anything: it is a label: what it is worth is what the hold of that sum in a sandbox is worth. -/
noncomputable def Try.pinned : Pinned := { name := "qxb6000776a", sum := "a9acd0c0655bfe3aab6da36844b8dc26930712a70629f86239f31232aa11a3ce", checked := Try.checked }
namespace Rows
def none {H : Type} : Left H := { results := [], args := [] }

/-- 'zzlaws_rfc3339_b1.FnNumberRoundTrip': WHATEVER THE INPUT: true; the input reads as it did. -/
def fnNumberRoundTripSpec : ChangeSpec := { name := "fnNumberRoundTrip", fn := fun _ => fun
  | [d1, d2, d3, d4, d5] => { results := [.lit (.bool true)], args := [d1, d2, d3, d4, d5] }
  | _ => none }
def fnNumberRoundTripRow : OpenClaim := { program := "qxb6000776a", sum := "a9acd0c0655bfe3aab6da36844b8dc26930712a70629f86239f31232aa11a3ce", func := "example.com/cubby/cubby/zzlaws_rfc3339_b1.FnNumberRoundTrip", spec := "fnNumberRoundTrip", apart := false }
def FnNumberRoundTripSaid : Prop := fnNumberRoundTripRow.holds Try.pinned (OpenSpec.ofChange fnNumberRoundTripSpec)

/-- ITS FALSE NEIGHBOUR: 'it returns false'. Refute it at one input. -/
def fnNumberRoundTripWrong : ChangeSpec := { name := "fnNumberRoundTrip", fn := fun _ => fun
  | [d1, d2, d3, d4, d5] => { results := [.lit (.bool false)], args := [d1, d2, d3, d4, d5] }
  | _ => none }
def FnNumberRoundTripWrongFalsely : Prop := fnNumberRoundTripRow.holds Try.pinned (OpenSpec.ofChange fnNumberRoundTripWrong)

end Rows
end Go.Proofs.Qxb6000776a
