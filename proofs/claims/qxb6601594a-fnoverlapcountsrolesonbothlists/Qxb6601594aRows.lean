/-
  No cell of these rows narrows 'for every input' (looked for: loops, veiled, ifaces, maps, wideKeys, modest, calm, conditions, laid).
  DERIVED. THE GIVEN ROWS OF THIS SEAT. 3 by the template 'for every input the law returns true; each argument reads behind the call as it read before'; 0 by the template 'total and deterministic' (their statements: Qxb6601594aTotals.lean).
  GIVEN WITH THE SEED: the statements are not yours to turn. If you find one false, say at which input.
  Laid BY PROGRAM, IN A SANDBOX (cutbox-rows.mjs): the forced cells as the released guide's own fill.sh prints them over the translation ba981a0ba1b8d8a7… (all of the seat's roots in one cut). By AI agents, Wed Nov 11 2026. No macro, syntax, notation, axiom, sorry.
-/
import Derived.Test.Qxb6601594aChecked
import GoSem.Claim
import GoSem.ClaimJoined
import GoSem.ClaimMapViews
import Derived.JoinedTies
import Derived.KernelRfl
namespace Go.Proofs.Qxb6601594a
/- THE CELL 'sum', in the pinned program and in every row, IS THE sha256 OF THE DUMP (.gsa) THAT Qxb6601594aProg.lean LOADS. Nothing in Lean hashes anything: it is a label: what it is worth is what the hold of that sum in a sandbox is worth. -/
noncomputable def Try.pinned : Pinned := { name := "qxb6601594a", sum := "ba981a0ba1b8d8a76631d71fc89d727a707dc9db86b7394be2b0de45104c792d", checked := Try.checked }
namespace Rows
def none {H : Type} : Left H := { results := [], args := [] }

/-- 'zzlaws_internal_rbac_b1.FnOverlapCountsRolesOnBothLists': WHATEVER THE INPUT: true; the input reads as it did. -/
def fnOverlapCountsRolesOnBothListsSpec : ChangeSpec := { name := "fnOverlapCountsRolesOnBothLists", fn := fun _ => fun
  | [d1, d2, d3, d4, d5, d6, d7, d8] => { results := [.lit (.bool true)], args := [d1, d2, d3, d4, d5, d6, d7, d8] }
  | _ => none }
def fnOverlapCountsRolesOnBothListsRow : OpenClaim := { program := "qxb6601594a", sum := "ba981a0ba1b8d8a76631d71fc89d727a707dc9db86b7394be2b0de45104c792d", func := "example.com/suricate/suricate/zzlaws_internal_rbac_b1.FnOverlapCountsRolesOnBothLists", spec := "fnOverlapCountsRolesOnBothLists", plainKeys := false, apart := false }
def FnOverlapCountsRolesOnBothListsSaid : Prop := fnOverlapCountsRolesOnBothListsRow.holds Try.pinned (OpenSpec.ofChange fnOverlapCountsRolesOnBothListsSpec)

/-- ITS FALSE NEIGHBOUR: 'it returns false'. Refute it at one input. -/
def fnOverlapCountsRolesOnBothListsWrong : ChangeSpec := { name := "fnOverlapCountsRolesOnBothLists", fn := fun _ => fun
  | [d1, d2, d3, d4, d5, d6, d7, d8] => { results := [.lit (.bool false)], args := [d1, d2, d3, d4, d5, d6, d7, d8] }
  | _ => none }
def FnOverlapCountsRolesOnBothListsWrongFalsely : Prop := fnOverlapCountsRolesOnBothListsRow.holds Try.pinned (OpenSpec.ofChange fnOverlapCountsRolesOnBothListsWrong)

/-- 'zzlaws_internal_rbac_b1.FnOverlapRepeatIsFree': WHATEVER THE INPUT: true; the input reads as it did. -/
def fnOverlapRepeatIsFreeSpec : ChangeSpec := { name := "fnOverlapRepeatIsFree", fn := fun _ => fun
  | [d1, d2, d3, d4, d5, d6, d7] => { results := [.lit (.bool true)], args := [d1, d2, d3, d4, d5, d6, d7] }
  | _ => none }
def fnOverlapRepeatIsFreeRow : OpenClaim := { program := "qxb6601594a", sum := "ba981a0ba1b8d8a76631d71fc89d727a707dc9db86b7394be2b0de45104c792d", func := "example.com/suricate/suricate/zzlaws_internal_rbac_b1.FnOverlapRepeatIsFree", spec := "fnOverlapRepeatIsFree", plainKeys := false, apart := false }
def FnOverlapRepeatIsFreeSaid : Prop := fnOverlapRepeatIsFreeRow.holds Try.pinned (OpenSpec.ofChange fnOverlapRepeatIsFreeSpec)

/-- ITS FALSE NEIGHBOUR: 'it returns false'. Refute it at one input. -/
def fnOverlapRepeatIsFreeWrong : ChangeSpec := { name := "fnOverlapRepeatIsFree", fn := fun _ => fun
  | [d1, d2, d3, d4, d5, d6, d7] => { results := [.lit (.bool false)], args := [d1, d2, d3, d4, d5, d6, d7] }
  | _ => none }
def FnOverlapRepeatIsFreeWrongFalsely : Prop := fnOverlapRepeatIsFreeRow.holds Try.pinned (OpenSpec.ofChange fnOverlapRepeatIsFreeWrong)

/-- 'zzlaws_internal_rbac_b1.FnOverlapIsSymmetric': WHATEVER THE INPUT: true; the input reads as it did. -/
def fnOverlapIsSymmetricSpec : ChangeSpec := { name := "fnOverlapIsSymmetric", fn := fun _ => fun
  | [d1, d2, d3, d4, d5, d6, d7] => { results := [.lit (.bool true)], args := [d1, d2, d3, d4, d5, d6, d7] }
  | _ => none }
def fnOverlapIsSymmetricRow : OpenClaim := { program := "qxb6601594a", sum := "ba981a0ba1b8d8a76631d71fc89d727a707dc9db86b7394be2b0de45104c792d", func := "example.com/suricate/suricate/zzlaws_internal_rbac_b1.FnOverlapIsSymmetric", spec := "fnOverlapIsSymmetric", plainKeys := false, apart := false }
def FnOverlapIsSymmetricSaid : Prop := fnOverlapIsSymmetricRow.holds Try.pinned (OpenSpec.ofChange fnOverlapIsSymmetricSpec)

/-- ITS FALSE NEIGHBOUR: 'it returns false'. Refute it at one input. -/
def fnOverlapIsSymmetricWrong : ChangeSpec := { name := "fnOverlapIsSymmetric", fn := fun _ => fun
  | [d1, d2, d3, d4, d5, d6, d7] => { results := [.lit (.bool false)], args := [d1, d2, d3, d4, d5, d6, d7] }
  | _ => none }
def FnOverlapIsSymmetricWrongFalsely : Prop := fnOverlapIsSymmetricRow.holds Try.pinned (OpenSpec.ofChange fnOverlapIsSymmetricWrong)

end Rows
end Go.Proofs.Qxb6601594a
