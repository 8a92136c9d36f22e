/-
  No cell of these rows narrows 'for every input' (looked for: loops, veiled, ifaces, maps, wideKeys, modest, calm, conditions, laid).
  DERIVED. THE GIVEN ROWS OF THIS SEAT. 5 by the template 'for every input the law returns true; each argument reads behind the call as it read before'; 0 by the template 'total and deterministic' (their statements: Qxb6601178aTotals.lean).
  GIVEN WITH THE SEED: the statements are not yours to turn. If you find one false, say at which input.
  Laid BY PROGRAM, IN A SANDBOX (cutbox-rows.mjs): the forced cells as the released guide's own fill.sh prints them over the translation 3207221bf3ed5f6c… (all of the seat's roots in one cut). By AI agents, Wed Nov 11 2026. No macro, syntax, notation, axiom, sorry.
-/
import Derived.Test.Qxb6601178aChecked
import GoSem.Claim
import GoSem.ClaimJoined
import GoSem.ClaimMapViews
import Derived.JoinedTies
import Derived.KernelRfl
namespace Go.Proofs.Qxb6601178a
/- THE CELL 'sum', in the pinned program and in every row, IS THE sha256 OF THE DUMP (.gsa) THAT Qxb6601178aProg.lean LOADS. Nothing in Lean hashes anything: it is a label: what it is worth is what the hold of that sum in a sandbox is worth. -/
noncomputable def Try.pinned : Pinned := { name := "qxb6601178a", sum := "3207221bf3ed5f6cdd87e2cc999582da9adc0475926a5fd00d49d99553b4f8ce", checked := Try.checked }
namespace Rows
def none {H : Type} : Left H := { results := [], args := [] }

/-- 'zzlaws_internal_input_b1.FnAllDigitsMatchesCaseTable': WHATEVER THE INPUT: true; the input reads as it did. -/
def fnAllDigitsMatchesCaseTableSpec : ChangeSpec := { name := "fnAllDigitsMatchesCaseTable", fn := fun _ => fun
  | [d] => { results := [.lit (.bool true)], args := [d] }
  | _ => none }
def fnAllDigitsMatchesCaseTableRow : OpenClaim := { program := "qxb6601178a", sum := "3207221bf3ed5f6cdd87e2cc999582da9adc0475926a5fd00d49d99553b4f8ce", func := "example.com/tuoguan/tuoguan/zzlaws_internal_input_b1.FnAllDigitsMatchesCaseTable", spec := "fnAllDigitsMatchesCaseTable", apart := false }
def FnAllDigitsMatchesCaseTableSaid : Prop := fnAllDigitsMatchesCaseTableRow.holds Try.pinned (OpenSpec.ofChange fnAllDigitsMatchesCaseTableSpec)

/-- ITS FALSE NEIGHBOUR: 'it returns false'. Refute it at one input. -/
def fnAllDigitsMatchesCaseTableWrong : ChangeSpec := { name := "fnAllDigitsMatchesCaseTable", fn := fun _ => fun
  | [d] => { results := [.lit (.bool false)], args := [d] }
  | _ => none }
def FnAllDigitsMatchesCaseTableWrongFalsely : Prop := fnAllDigitsMatchesCaseTableRow.holds Try.pinned (OpenSpec.ofChange fnAllDigitsMatchesCaseTableWrong)

/-- 'zzlaws_internal_input_b1.FnAllDigitsSplitsOverConcatenation': WHATEVER THE INPUT: true; the input reads as it did. -/
def fnAllDigitsSplitsOverConcatenationSpec : ChangeSpec := { name := "fnAllDigitsSplitsOverConcatenation", fn := fun _ => fun
  | [d1, d2] => { results := [.lit (.bool true)], args := [d1, d2] }
  | _ => none }
def fnAllDigitsSplitsOverConcatenationRow : OpenClaim := { program := "qxb6601178a", sum := "3207221bf3ed5f6cdd87e2cc999582da9adc0475926a5fd00d49d99553b4f8ce", func := "example.com/tuoguan/tuoguan/zzlaws_internal_input_b1.FnAllDigitsSplitsOverConcatenation", spec := "fnAllDigitsSplitsOverConcatenation", apart := false }
def FnAllDigitsSplitsOverConcatenationSaid : Prop := fnAllDigitsSplitsOverConcatenationRow.holds Try.pinned (OpenSpec.ofChange fnAllDigitsSplitsOverConcatenationSpec)

/-- ITS FALSE NEIGHBOUR: 'it returns false'. Refute it at one input. -/
def fnAllDigitsSplitsOverConcatenationWrong : ChangeSpec := { name := "fnAllDigitsSplitsOverConcatenation", fn := fun _ => fun
  | [d1, d2] => { results := [.lit (.bool false)], args := [d1, d2] }
  | _ => none }
def FnAllDigitsSplitsOverConcatenationWrongFalsely : Prop := fnAllDigitsSplitsOverConcatenationRow.holds Try.pinned (OpenSpec.ofChange fnAllDigitsSplitsOverConcatenationWrong)

/-- 'zzlaws_internal_input_b1.FnPackCurrencyKeepsOrder': WHATEVER THE INPUT: true; the input reads as it did. -/
def fnPackCurrencyKeepsOrderSpec : ChangeSpec := { name := "fnPackCurrencyKeepsOrder", fn := fun _ => fun
  | [d1, d2] => { results := [.lit (.bool true)], args := [d1, d2] }
  | _ => none }
def fnPackCurrencyKeepsOrderRow : OpenClaim := { program := "qxb6601178a", sum := "3207221bf3ed5f6cdd87e2cc999582da9adc0475926a5fd00d49d99553b4f8ce", func := "example.com/tuoguan/tuoguan/zzlaws_internal_input_b1.FnPackCurrencyKeepsOrder", spec := "fnPackCurrencyKeepsOrder", apart := false }
def FnPackCurrencyKeepsOrderSaid : Prop := fnPackCurrencyKeepsOrderRow.holds Try.pinned (OpenSpec.ofChange fnPackCurrencyKeepsOrderSpec)

/-- ITS FALSE NEIGHBOUR: 'it returns false'. Refute it at one input. -/
def fnPackCurrencyKeepsOrderWrong : ChangeSpec := { name := "fnPackCurrencyKeepsOrder", fn := fun _ => fun
  | [d1, d2] => { results := [.lit (.bool false)], args := [d1, d2] }
  | _ => none }
def FnPackCurrencyKeepsOrderWrongFalsely : Prop := fnPackCurrencyKeepsOrderRow.holds Try.pinned (OpenSpec.ofChange fnPackCurrencyKeepsOrderWrong)

/-- 'zzlaws_internal_input_b1.FnPackAfterUnpackReducesModulo': WHATEVER THE INPUT: true; the input reads as it did. -/
def fnPackAfterUnpackReducesModuloSpec : ChangeSpec := { name := "fnPackAfterUnpackReducesModulo", fn := fun _ => fun
  | [d] => { results := [.lit (.bool true)], args := [d] }
  | _ => none }
def fnPackAfterUnpackReducesModuloRow : OpenClaim := { program := "qxb6601178a", sum := "3207221bf3ed5f6cdd87e2cc999582da9adc0475926a5fd00d49d99553b4f8ce", func := "example.com/tuoguan/tuoguan/zzlaws_internal_input_b1.FnPackAfterUnpackReducesModulo", spec := "fnPackAfterUnpackReducesModulo", apart := false }
def FnPackAfterUnpackReducesModuloSaid : Prop := fnPackAfterUnpackReducesModuloRow.holds Try.pinned (OpenSpec.ofChange fnPackAfterUnpackReducesModuloSpec)

/-- ITS FALSE NEIGHBOUR: 'it returns false'. Refute it at one input. -/
def fnPackAfterUnpackReducesModuloWrong : ChangeSpec := { name := "fnPackAfterUnpackReducesModulo", fn := fun _ => fun
  | [d] => { results := [.lit (.bool false)], args := [d] }
  | _ => none }
def FnPackAfterUnpackReducesModuloWrongFalsely : Prop := fnPackAfterUnpackReducesModuloRow.holds Try.pinned (OpenSpec.ofChange fnPackAfterUnpackReducesModuloWrong)

/-- 'zzlaws_internal_input_b1.FnUnpackAfterPackIsIdentity': WHATEVER THE INPUT: true; the input reads as it did. -/
def fnUnpackAfterPackIsIdentitySpec : ChangeSpec := { name := "fnUnpackAfterPackIsIdentity", fn := fun _ => fun
  | [d] => { results := [.lit (.bool true)], args := [d] }
  | _ => none }
def fnUnpackAfterPackIsIdentityRow : OpenClaim := { program := "qxb6601178a", sum := "3207221bf3ed5f6cdd87e2cc999582da9adc0475926a5fd00d49d99553b4f8ce", func := "example.com/tuoguan/tuoguan/zzlaws_internal_input_b1.FnUnpackAfterPackIsIdentity", spec := "fnUnpackAfterPackIsIdentity", apart := false }
def FnUnpackAfterPackIsIdentitySaid : Prop := fnUnpackAfterPackIsIdentityRow.holds Try.pinned (OpenSpec.ofChange fnUnpackAfterPackIsIdentitySpec)

/-- ITS FALSE NEIGHBOUR: 'it returns false'. Refute it at one input. -/
def fnUnpackAfterPackIsIdentityWrong : ChangeSpec := { name := "fnUnpackAfterPackIsIdentity", fn := fun _ => fun
  | [d] => { results := [.lit (.bool false)], args := [d] }
  | _ => none }
def FnUnpackAfterPackIsIdentityWrongFalsely : Prop := fnUnpackAfterPackIsIdentityRow.holds Try.pinned (OpenSpec.ofChange fnUnpackAfterPackIsIdentityWrong)

end Rows
end Go.Proofs.Qxb6601178a
