/-
  No cell of these rows narrows 'for every input' (looked for: loops, veiled, ifaces, maps, wideKeys, modest, calm, conditions, laid).
  DERIVED. THE GIVEN ROWS OF THIS SEAT. 4 by the template 'for every input the law returns true; each argument reads behind the call as it read before'; 0 by the template 'total and deterministic' (their statements: Qxb6600179aTotals.lean).
  GIVEN WITH THE SEED: the statements are not yours to turn. If you find one false, say at which input.
  Laid BY PROGRAM, IN A SANDBOX (cutbox-rows.mjs): the forced cells as the released guide's own fill.sh prints them over the translation ec1838ff87dbeda6… (all of the seat's roots in one cut). By AI agents, Wed Nov 11 2026. No macro, syntax, notation, axiom, sorry.
-/
import Derived.Test.Qxb6600179aChecked
import GoSem.Claim
import GoSem.ClaimJoined
import GoSem.ClaimMapViews
import Derived.JoinedTies
import Derived.KernelRfl
namespace Go.Proofs.Qxb6600179a
/- THE CELL 'sum', in the pinned program and in every row, IS THE sha256 OF THE DUMP (.gsa) THAT Qxb6600179aProg.lean LOADS. Nothing in Lean hashes anything: it is a label: what it is worth is what the hold of that sum in a sandbox is worth. -/
noncomputable def Try.pinned : Pinned := { name := "qxb6600179a", sum := "ec1838ff87dbeda6dc11a01e457e351fb8920993f42b68698422adf58fae6589", checked := Try.checked }
namespace Rows
def none {H : Type} : Left H := { results := [], args := [] }

/-- 'zzlaws_internal_money_b1.FnDigitsValueRightToLeft': WHATEVER THE INPUT: true; the input reads as it did. -/
def fnDigitsValueRightToLeftSpec : ChangeSpec := { name := "fnDigitsValueRightToLeft", fn := fun _ => fun
  | [d1, d2] => { results := [.lit (.bool true)], args := [d1, d2] }
  | _ => none }
def fnDigitsValueRightToLeftRow : OpenClaim := { program := "qxb6600179a", sum := "ec1838ff87dbeda6dc11a01e457e351fb8920993f42b68698422adf58fae6589", func := "example.com/drawdown/drawdown/zzlaws_internal_money_b1.FnDigitsValueRightToLeft", spec := "fnDigitsValueRightToLeft", apart := false }
def FnDigitsValueRightToLeftSaid : Prop := fnDigitsValueRightToLeftRow.holds Try.pinned (OpenSpec.ofChange fnDigitsValueRightToLeftSpec)

/-- ITS FALSE NEIGHBOUR: 'it returns false'. Refute it at one input. -/
def fnDigitsValueRightToLeftWrong : ChangeSpec := { name := "fnDigitsValueRightToLeft", fn := fun _ => fun
  | [d1, d2] => { results := [.lit (.bool false)], args := [d1, d2] }
  | _ => none }
def FnDigitsValueRightToLeftWrongFalsely : Prop := fnDigitsValueRightToLeftRow.holds Try.pinned (OpenSpec.ofChange fnDigitsValueRightToLeftWrong)

/-- 'zzlaws_internal_money_b1.FnDigitsValueOrdersLikeNumbers': WHATEVER THE INPUT: true; the input reads as it did. -/
def fnDigitsValueOrdersLikeNumbersSpec : ChangeSpec := { name := "fnDigitsValueOrdersLikeNumbers", fn := fun _ => fun
  | [d1, d2] => { results := [.lit (.bool true)], args := [d1, d2] }
  | _ => none }
def fnDigitsValueOrdersLikeNumbersRow : OpenClaim := { program := "qxb6600179a", sum := "ec1838ff87dbeda6dc11a01e457e351fb8920993f42b68698422adf58fae6589", func := "example.com/drawdown/drawdown/zzlaws_internal_money_b1.FnDigitsValueOrdersLikeNumbers", spec := "fnDigitsValueOrdersLikeNumbers", apart := false }
def FnDigitsValueOrdersLikeNumbersSaid : Prop := fnDigitsValueOrdersLikeNumbersRow.holds Try.pinned (OpenSpec.ofChange fnDigitsValueOrdersLikeNumbersSpec)

/-- ITS FALSE NEIGHBOUR: 'it returns false'. Refute it at one input. -/
def fnDigitsValueOrdersLikeNumbersWrong : ChangeSpec := { name := "fnDigitsValueOrdersLikeNumbers", fn := fun _ => fun
  | [d1, d2] => { results := [.lit (.bool false)], args := [d1, d2] }
  | _ => none }
def FnDigitsValueOrdersLikeNumbersWrongFalsely : Prop := fnDigitsValueOrdersLikeNumbersRow.holds Try.pinned (OpenSpec.ofChange fnDigitsValueOrdersLikeNumbersWrong)

/-- 'zzlaws_internal_money_b1.FnIsDigitsMatchesDigitTable': WHATEVER THE INPUT: true; the input reads as it did. -/
def fnIsDigitsMatchesDigitTableSpec : ChangeSpec := { name := "fnIsDigitsMatchesDigitTable", fn := fun _ => fun
  | [d] => { results := [.lit (.bool true)], args := [d] }
  | _ => none }
def fnIsDigitsMatchesDigitTableRow : OpenClaim := { program := "qxb6600179a", sum := "ec1838ff87dbeda6dc11a01e457e351fb8920993f42b68698422adf58fae6589", func := "example.com/drawdown/drawdown/zzlaws_internal_money_b1.FnIsDigitsMatchesDigitTable", spec := "fnIsDigitsMatchesDigitTable", apart := false }
def FnIsDigitsMatchesDigitTableSaid : Prop := fnIsDigitsMatchesDigitTableRow.holds Try.pinned (OpenSpec.ofChange fnIsDigitsMatchesDigitTableSpec)

/-- ITS FALSE NEIGHBOUR: 'it returns false'. Refute it at one input. -/
def fnIsDigitsMatchesDigitTableWrong : ChangeSpec := { name := "fnIsDigitsMatchesDigitTable", fn := fun _ => fun
  | [d] => { results := [.lit (.bool false)], args := [d] }
  | _ => none }
def FnIsDigitsMatchesDigitTableWrongFalsely : Prop := fnIsDigitsMatchesDigitTableRow.holds Try.pinned (OpenSpec.ofChange fnIsDigitsMatchesDigitTableWrong)

/-- 'zzlaws_internal_money_b1.FnIsDigitsOfConcatenation': WHATEVER THE INPUT: true; the input reads as it did. -/
def fnIsDigitsOfConcatenationSpec : ChangeSpec := { name := "fnIsDigitsOfConcatenation", fn := fun _ => fun
  | [d1, d2] => { results := [.lit (.bool true)], args := [d1, d2] }
  | _ => none }
def fnIsDigitsOfConcatenationRow : OpenClaim := { program := "qxb6600179a", sum := "ec1838ff87dbeda6dc11a01e457e351fb8920993f42b68698422adf58fae6589", func := "example.com/drawdown/drawdown/zzlaws_internal_money_b1.FnIsDigitsOfConcatenation", spec := "fnIsDigitsOfConcatenation", apart := false }
def FnIsDigitsOfConcatenationSaid : Prop := fnIsDigitsOfConcatenationRow.holds Try.pinned (OpenSpec.ofChange fnIsDigitsOfConcatenationSpec)

/-- ITS FALSE NEIGHBOUR: 'it returns false'. Refute it at one input. -/
def fnIsDigitsOfConcatenationWrong : ChangeSpec := { name := "fnIsDigitsOfConcatenation", fn := fun _ => fun
  | [d1, d2] => { results := [.lit (.bool false)], args := [d1, d2] }
  | _ => none }
def FnIsDigitsOfConcatenationWrongFalsely : Prop := fnIsDigitsOfConcatenationRow.holds Try.pinned (OpenSpec.ofChange fnIsDigitsOfConcatenationWrong)

end Rows
end Go.Proofs.Qxb6600179a
