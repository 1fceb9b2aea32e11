/-
  No cell of these rows narrows 'for every input' (looked for: loops, veiled, ifaces, maps, wideKeys, modest, calm, conditions, laid).
  DERIVED. THE GIVEN ROWS OF THIS SEAT. 2 by the template 'for every input the law returns true; each argument reads behind the call as it read before'; 0 by the template 'total and deterministic' (their statements: Qxb6601690aTotals.lean).
  GIVEN WITH THE SEED: the statements are not yours to turn. If you find one false, say at which input.
  Laid BY PROGRAM, IN A SANDBOX (cutbox-rows.mjs): the forced cells as the released guide's own fill.sh prints them over the translation b0336d99a7d64db5… (all of the seat's roots in one cut). By AI agents, Wed Nov 11 2026. No macro, syntax, notation, axiom, sorry.
-/
import Derived.Test.Qxb6601690aChecked
import GoSem.Claim
import GoSem.ClaimJoined
import GoSem.ClaimMapViews
import Derived.JoinedTies
import Derived.KernelRfl
namespace Go.Proofs.Qxb6601690a
/- THE CELL 'sum', in the pinned program and in every row, IS THE sha256 OF THE DUMP (.gsa) THAT Qxb6601690aProg.lean LOADS. Nothing in Lean hashes anything: it is a label: what it is worth is what the hold of that sum in a sandbox is worth. -/
noncomputable def Try.pinned : Pinned := { name := "qxb6601690a", sum := "b0336d99a7d64db5bdf32a0a0d2ba8a26b90ecef89c7b94cfa078be2f4fdfd2a", checked := Try.checked }
namespace Rows
def none {H : Type} : Left H := { results := [], args := [] }

/-- 'zzlaws_internal_model_b1.FnDisallowedDeviceIsFirstUnnamed': WHATEVER THE INPUT: true; the input reads as it did. -/
def fnDisallowedDeviceIsFirstUnnamedSpec : ChangeSpec := { name := "fnDisallowedDeviceIsFirstUnnamed", fn := fun _ => fun
  | [d1, d2, d3, d4, d5] => { results := [.lit (.bool true)], args := [d1, d2, d3, d4, d5] }
  | _ => none }
def fnDisallowedDeviceIsFirstUnnamedRow : OpenClaim := { program := "qxb6601690a", sum := "b0336d99a7d64db5bdf32a0a0d2ba8a26b90ecef89c7b94cfa078be2f4fdfd2a", func := "example.com/echotag/echotag/zzlaws_internal_model_b1.FnDisallowedDeviceIsFirstUnnamed", spec := "fnDisallowedDeviceIsFirstUnnamed", apart := false }
def FnDisallowedDeviceIsFirstUnnamedSaid : Prop := fnDisallowedDeviceIsFirstUnnamedRow.holds Try.pinned (OpenSpec.ofChange fnDisallowedDeviceIsFirstUnnamedSpec)

/-- ITS FALSE NEIGHBOUR: 'it returns false'. Refute it at one input. -/
def fnDisallowedDeviceIsFirstUnnamedWrong : ChangeSpec := { name := "fnDisallowedDeviceIsFirstUnnamed", fn := fun _ => fun
  | [d1, d2, d3, d4, d5] => { results := [.lit (.bool false)], args := [d1, d2, d3, d4, d5] }
  | _ => none }
def FnDisallowedDeviceIsFirstUnnamedWrongFalsely : Prop := fnDisallowedDeviceIsFirstUnnamedRow.holds Try.pinned (OpenSpec.ofChange fnDisallowedDeviceIsFirstUnnamedWrong)

/-- 'zzlaws_internal_model_b1.FnDisallowedDeviceNoneWhenAllNamed': WHATEVER THE INPUT: true; the input reads as it did. -/
def fnDisallowedDeviceNoneWhenAllNamedSpec : ChangeSpec := { name := "fnDisallowedDeviceNoneWhenAllNamed", fn := fun _ => fun
  | [d1, d2, d3, d4, d5] => { results := [.lit (.bool true)], args := [d1, d2, d3, d4, d5] }
  | _ => none }
def fnDisallowedDeviceNoneWhenAllNamedRow : OpenClaim := { program := "qxb6601690a", sum := "b0336d99a7d64db5bdf32a0a0d2ba8a26b90ecef89c7b94cfa078be2f4fdfd2a", func := "example.com/echotag/echotag/zzlaws_internal_model_b1.FnDisallowedDeviceNoneWhenAllNamed", spec := "fnDisallowedDeviceNoneWhenAllNamed", apart := false }
def FnDisallowedDeviceNoneWhenAllNamedSaid : Prop := fnDisallowedDeviceNoneWhenAllNamedRow.holds Try.pinned (OpenSpec.ofChange fnDisallowedDeviceNoneWhenAllNamedSpec)

/-- ITS FALSE NEIGHBOUR: 'it returns false'. Refute it at one input. -/
def fnDisallowedDeviceNoneWhenAllNamedWrong : ChangeSpec := { name := "fnDisallowedDeviceNoneWhenAllNamed", fn := fun _ => fun
  | [d1, d2, d3, d4, d5] => { results := [.lit (.bool false)], args := [d1, d2, d3, d4, d5] }
  | _ => none }
def FnDisallowedDeviceNoneWhenAllNamedWrongFalsely : Prop := fnDisallowedDeviceNoneWhenAllNamedRow.holds Try.pinned (OpenSpec.ofChange fnDisallowedDeviceNoneWhenAllNamedWrong)

end Rows
end Go.Proofs.Qxb6601690a
