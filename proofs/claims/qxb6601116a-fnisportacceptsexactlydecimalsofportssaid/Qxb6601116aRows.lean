/-
  No cell of these rows narrows 'for every input' (looked for: loops, veiled, ifaces, maps, wideKeys, modest, calm, conditions, laid).
  DERIVED. THE GIVEN ROWS OF THIS SEAT. 5 by the template 'for every input the law returns true; each argument reads behind the call as it read before'; 0 by the template 'total and deterministic' (their statements: Qxb6601116aTotals.lean).
  GIVEN WITH THE SEED: the statements are not yours to turn. If you find one false, say at which input.
  Laid BY PROGRAM, IN A SANDBOX (cutbox-rows.mjs): the forced cells as the released guide's own fill.sh prints them over the translation 2f2dc861d9d6369a… (all of the seat's roots in one cut). By AI agents, Wed Nov 11 2026. No macro, syntax, notation, axiom, sorry.
-/
import Derived.Test.Qxb6601116aChecked
import GoSem.Claim
import GoSem.ClaimJoined
import GoSem.ClaimMapViews
import Derived.JoinedTies
import Derived.KernelRfl
namespace Go.Proofs.Qxb6601116a
/- THE CELL 'sum', in the pinned program and in every row, IS THE sha256 OF THE DUMP (.gsa) THAT Qxb6601116aProg.lean LOADS. Nothing in Lean hashes anything: it is a label: what it is worth is what the hold of that sum in a sandbox is worth. -/
noncomputable def Try.pinned : Pinned := { name := "qxb6601116a", sum := "2f2dc861d9d6369a5142ecc1ffcd3d6b02d98a34613a6c3306ae575ca7055fad", checked := Try.checked }
namespace Rows
def none {H : Type} : Left H := { results := [], args := [] }

/-- 'zzlaws_root_b1.FnIsPortMatchesDecimalModel': WHATEVER THE INPUT: true; the input reads as it did. -/
def fnIsPortMatchesDecimalModelSpec : ChangeSpec := { name := "fnIsPortMatchesDecimalModel", fn := fun _ => fun
  | [d] => { results := [.lit (.bool true)], args := [d] }
  | _ => none }
def fnIsPortMatchesDecimalModelRow : OpenClaim := { program := "qxb6601116a", sum := "2f2dc861d9d6369a5142ecc1ffcd3d6b02d98a34613a6c3306ae575ca7055fad", func := "example.com/lean-checks/lean-checks/zzlaws_root_b1.FnIsPortMatchesDecimalModel", spec := "fnIsPortMatchesDecimalModel", apart := false }
def FnIsPortMatchesDecimalModelSaid : Prop := fnIsPortMatchesDecimalModelRow.holds Try.pinned (OpenSpec.ofChange fnIsPortMatchesDecimalModelSpec)

/-- ITS FALSE NEIGHBOUR: 'it returns false'. Refute it at one input. -/
def fnIsPortMatchesDecimalModelWrong : ChangeSpec := { name := "fnIsPortMatchesDecimalModel", fn := fun _ => fun
  | [d] => { results := [.lit (.bool false)], args := [d] }
  | _ => none }
def FnIsPortMatchesDecimalModelWrongFalsely : Prop := fnIsPortMatchesDecimalModelRow.holds Try.pinned (OpenSpec.ofChange fnIsPortMatchesDecimalModelWrong)

/-- 'zzlaws_root_b1.FnIsPortLeadingZeroInvariant': WHATEVER THE INPUT: true; the input reads as it did. -/
def fnIsPortLeadingZeroInvariantSpec : ChangeSpec := { name := "fnIsPortLeadingZeroInvariant", fn := fun _ => fun
  | [d] => { results := [.lit (.bool true)], args := [d] }
  | _ => none }
def fnIsPortLeadingZeroInvariantRow : OpenClaim := { program := "qxb6601116a", sum := "2f2dc861d9d6369a5142ecc1ffcd3d6b02d98a34613a6c3306ae575ca7055fad", func := "example.com/lean-checks/lean-checks/zzlaws_root_b1.FnIsPortLeadingZeroInvariant", spec := "fnIsPortLeadingZeroInvariant", apart := false }
def FnIsPortLeadingZeroInvariantSaid : Prop := fnIsPortLeadingZeroInvariantRow.holds Try.pinned (OpenSpec.ofChange fnIsPortLeadingZeroInvariantSpec)

/-- ITS FALSE NEIGHBOUR: 'it returns false'. Refute it at one input. -/
def fnIsPortLeadingZeroInvariantWrong : ChangeSpec := { name := "fnIsPortLeadingZeroInvariant", fn := fun _ => fun
  | [d] => { results := [.lit (.bool false)], args := [d] }
  | _ => none }
def FnIsPortLeadingZeroInvariantWrongFalsely : Prop := fnIsPortLeadingZeroInvariantRow.holds Try.pinned (OpenSpec.ofChange fnIsPortLeadingZeroInvariantWrong)

/-- 'zzlaws_root_b1.FnIsPortAcceptsExactlyDecimalsOfPorts': WHATEVER THE INPUT: true; the input reads as it did. -/
def fnIsPortAcceptsExactlyDecimalsOfPortsSpec : ChangeSpec := { name := "fnIsPortAcceptsExactlyDecimalsOfPorts", fn := fun _ => fun
  | [d1, d2] => { results := [.lit (.bool true)], args := [d1, d2] }
  | _ => none }
def fnIsPortAcceptsExactlyDecimalsOfPortsRow : OpenClaim := { program := "qxb6601116a", sum := "2f2dc861d9d6369a5142ecc1ffcd3d6b02d98a34613a6c3306ae575ca7055fad", func := "example.com/lean-checks/lean-checks/zzlaws_root_b1.FnIsPortAcceptsExactlyDecimalsOfPorts", spec := "fnIsPortAcceptsExactlyDecimalsOfPorts", apart := false }
def FnIsPortAcceptsExactlyDecimalsOfPortsSaid : Prop := fnIsPortAcceptsExactlyDecimalsOfPortsRow.holds Try.pinned (OpenSpec.ofChange fnIsPortAcceptsExactlyDecimalsOfPortsSpec)

/-- ITS FALSE NEIGHBOUR: 'it returns false'. Refute it at one input. -/
def fnIsPortAcceptsExactlyDecimalsOfPortsWrong : ChangeSpec := { name := "fnIsPortAcceptsExactlyDecimalsOfPorts", fn := fun _ => fun
  | [d1, d2] => { results := [.lit (.bool false)], args := [d1, d2] }
  | _ => none }
def FnIsPortAcceptsExactlyDecimalsOfPortsWrongFalsely : Prop := fnIsPortAcceptsExactlyDecimalsOfPortsRow.holds Try.pinned (OpenSpec.ofChange fnIsPortAcceptsExactlyDecimalsOfPortsWrong)

/-- 'zzlaws_root_b1.FnCutPortMatchesTwoScans': WHATEVER THE INPUT: true; the input reads as it did. -/
def fnCutPortMatchesTwoScansSpec : ChangeSpec := { name := "fnCutPortMatchesTwoScans", fn := fun _ => fun
  | [d] => { results := [.lit (.bool true)], args := [d] }
  | _ => none }
def fnCutPortMatchesTwoScansRow : OpenClaim := { program := "qxb6601116a", sum := "2f2dc861d9d6369a5142ecc1ffcd3d6b02d98a34613a6c3306ae575ca7055fad", func := "example.com/lean-checks/lean-checks/zzlaws_root_b1.FnCutPortMatchesTwoScans", spec := "fnCutPortMatchesTwoScans", apart := false }
def FnCutPortMatchesTwoScansSaid : Prop := fnCutPortMatchesTwoScansRow.holds Try.pinned (OpenSpec.ofChange fnCutPortMatchesTwoScansSpec)

/-- ITS FALSE NEIGHBOUR: 'it returns false'. Refute it at one input. -/
def fnCutPortMatchesTwoScansWrong : ChangeSpec := { name := "fnCutPortMatchesTwoScans", fn := fun _ => fun
  | [d] => { results := [.lit (.bool false)], args := [d] }
  | _ => none }
def FnCutPortMatchesTwoScansWrongFalsely : Prop := fnCutPortMatchesTwoScansRow.holds Try.pinned (OpenSpec.ofChange fnCutPortMatchesTwoScansWrong)

/-- 'zzlaws_root_b1.FnCutPortInvertsJoin': WHATEVER THE INPUT: true; the input reads as it did. -/
def fnCutPortInvertsJoinSpec : ChangeSpec := { name := "fnCutPortInvertsJoin", fn := fun _ => fun
  | [d1, d2] => { results := [.lit (.bool true)], args := [d1, d2] }
  | _ => none }
def fnCutPortInvertsJoinRow : OpenClaim := { program := "qxb6601116a", sum := "2f2dc861d9d6369a5142ecc1ffcd3d6b02d98a34613a6c3306ae575ca7055fad", func := "example.com/lean-checks/lean-checks/zzlaws_root_b1.FnCutPortInvertsJoin", spec := "fnCutPortInvertsJoin", apart := false }
def FnCutPortInvertsJoinSaid : Prop := fnCutPortInvertsJoinRow.holds Try.pinned (OpenSpec.ofChange fnCutPortInvertsJoinSpec)

/-- ITS FALSE NEIGHBOUR: 'it returns false'. Refute it at one input. -/
def fnCutPortInvertsJoinWrong : ChangeSpec := { name := "fnCutPortInvertsJoin", fn := fun _ => fun
  | [d1, d2] => { results := [.lit (.bool false)], args := [d1, d2] }
  | _ => none }
def FnCutPortInvertsJoinWrongFalsely : Prop := fnCutPortInvertsJoinRow.holds Try.pinned (OpenSpec.ofChange fnCutPortInvertsJoinWrong)

end Rows
end Go.Proofs.Qxb6601116a
