/-
  No cell of these rows narrows 'for every input' (looked for: loops, veiled, ifaces, maps, wideKeys, modest, calm, conditions, laid).
  DERIVED. THE GIVEN ROWS OF THIS SEAT. 7 by the template 'for every input the law returns true; each argument reads behind the call as it read before'; 0 by the template 'total and deterministic' (their statements: Qxb6601359aTotals.lean).
  GIVEN WITH THE SEED: the statements are not yours to turn. If you find one false, say at which input.
  Laid BY PROGRAM, IN A SANDBOX (cutbox-rows.mjs): the forced cells as the released guide's own fill.sh prints them over the translation ccfd4cfc86b2a8c3… (all of the seat's roots in one cut). By AI agents, Wed Nov 11 2026. No macro, syntax, notation, axiom, sorry.
-/
import Derived.Test.Qxb6601359aChecked
import GoSem.Claim
import GoSem.ClaimJoined
import GoSem.ClaimMapViews
import Derived.JoinedTies
import Derived.KernelRfl
namespace Go.Proofs.Qxb6601359a
/- THE CELL 'sum', in the pinned program and in every row, IS THE sha256 OF THE DUMP (.gsa) THAT Qxb6601359aProg.lean LOADS. Nothing in Lean hashes anything: it is a label: what it is worth is what the hold of that sum in a sandbox is worth. -/
noncomputable def Try.pinned : Pinned := { name := "qxb6601359a", sum := "ccfd4cfc86b2a8c3c51af84b89bc07885f1c15996fa60e79835a3fcd5b731250", checked := Try.checked }
namespace Rows
def none {H : Type} : Left H := { results := [], args := [] }

/-- 'zzlaws_internal_store_b1.FnIsNumberMatchesAutomaton': WHATEVER THE INPUT: true; the input reads as it did. -/
def fnIsNumberMatchesAutomatonSpec : ChangeSpec := { name := "fnIsNumberMatchesAutomaton", fn := fun _ => fun
  | [d] => { results := [.lit (.bool true)], args := [d] }
  | _ => none }
def fnIsNumberMatchesAutomatonRow : OpenClaim := { program := "qxb6601359a", sum := "ccfd4cfc86b2a8c3c51af84b89bc07885f1c15996fa60e79835a3fcd5b731250", func := "example.com/moorline/moorline/zzlaws_internal_store_b1.FnIsNumberMatchesAutomaton", spec := "fnIsNumberMatchesAutomaton", unfollowed := true, recurses := true, apart := false }
def FnIsNumberMatchesAutomatonSaid : Prop := fnIsNumberMatchesAutomatonRow.holds Try.pinned (OpenSpec.ofChange fnIsNumberMatchesAutomatonSpec)

/-- ITS FALSE NEIGHBOUR: 'it returns false'. Refute it at one input. -/
def fnIsNumberMatchesAutomatonWrong : ChangeSpec := { name := "fnIsNumberMatchesAutomaton", fn := fun _ => fun
  | [d] => { results := [.lit (.bool false)], args := [d] }
  | _ => none }
def FnIsNumberMatchesAutomatonWrongFalsely : Prop := fnIsNumberMatchesAutomatonRow.holds Try.pinned (OpenSpec.ofChange fnIsNumberMatchesAutomatonWrong)

/-- 'zzlaws_internal_store_b1.FnIsNumberMinusSign': WHATEVER THE INPUT: true; the input reads as it did. -/
def fnIsNumberMinusSignSpec : ChangeSpec := { name := "fnIsNumberMinusSign", fn := fun _ => fun
  | [d] => { results := [.lit (.bool true)], args := [d] }
  | _ => none }
def fnIsNumberMinusSignRow : OpenClaim := { program := "qxb6601359a", sum := "ccfd4cfc86b2a8c3c51af84b89bc07885f1c15996fa60e79835a3fcd5b731250", func := "example.com/moorline/moorline/zzlaws_internal_store_b1.FnIsNumberMinusSign", spec := "fnIsNumberMinusSign", unfollowed := true, recurses := true, apart := false }
def FnIsNumberMinusSignSaid : Prop := fnIsNumberMinusSignRow.holds Try.pinned (OpenSpec.ofChange fnIsNumberMinusSignSpec)

/-- ITS FALSE NEIGHBOUR: 'it returns false'. Refute it at one input. -/
def fnIsNumberMinusSignWrong : ChangeSpec := { name := "fnIsNumberMinusSign", fn := fun _ => fun
  | [d] => { results := [.lit (.bool false)], args := [d] }
  | _ => none }
def FnIsNumberMinusSignWrongFalsely : Prop := fnIsNumberMinusSignRow.holds Try.pinned (OpenSpec.ofChange fnIsNumberMinusSignWrong)

/-- 'zzlaws_internal_store_b1.FnIsNumberRefusesLeadingZero': WHATEVER THE INPUT: true; the input reads as it did. -/
def fnIsNumberRefusesLeadingZeroSpec : ChangeSpec := { name := "fnIsNumberRefusesLeadingZero", fn := fun _ => fun
  | [d] => { results := [.lit (.bool true)], args := [d] }
  | _ => none }
def fnIsNumberRefusesLeadingZeroRow : OpenClaim := { program := "qxb6601359a", sum := "ccfd4cfc86b2a8c3c51af84b89bc07885f1c15996fa60e79835a3fcd5b731250", func := "example.com/moorline/moorline/zzlaws_internal_store_b1.FnIsNumberRefusesLeadingZero", spec := "fnIsNumberRefusesLeadingZero", unfollowed := true, recurses := true, apart := false }
def FnIsNumberRefusesLeadingZeroSaid : Prop := fnIsNumberRefusesLeadingZeroRow.holds Try.pinned (OpenSpec.ofChange fnIsNumberRefusesLeadingZeroSpec)

/-- ITS FALSE NEIGHBOUR: 'it returns false'. Refute it at one input. -/
def fnIsNumberRefusesLeadingZeroWrong : ChangeSpec := { name := "fnIsNumberRefusesLeadingZero", fn := fun _ => fun
  | [d] => { results := [.lit (.bool false)], args := [d] }
  | _ => none }
def FnIsNumberRefusesLeadingZeroWrongFalsely : Prop := fnIsNumberRefusesLeadingZeroRow.holds Try.pinned (OpenSpec.ofChange fnIsNumberRefusesLeadingZeroWrong)

/-- 'zzlaws_internal_store_b1.FnVictimIsHeaviestEligible': WHATEVER THE INPUT: true; the input reads as it did. -/
def fnVictimIsHeaviestEligibleSpec : ChangeSpec := { name := "fnVictimIsHeaviestEligible", fn := fun _ => fun
  | [d1, d2, d3, d4, d5, d6, d7] => { results := [.lit (.bool true)], args := [d1, d2, d3, d4, d5, d6, d7] }
  | _ => none }
def fnVictimIsHeaviestEligibleRow : OpenClaim := { program := "qxb6601359a", sum := "ccfd4cfc86b2a8c3c51af84b89bc07885f1c15996fa60e79835a3fcd5b731250", func := "example.com/moorline/moorline/zzlaws_internal_store_b1.FnVictimIsHeaviestEligible", spec := "fnVictimIsHeaviestEligible", apart := false }
def FnVictimIsHeaviestEligibleSaid : Prop := fnVictimIsHeaviestEligibleRow.holds Try.pinned (OpenSpec.ofChange fnVictimIsHeaviestEligibleSpec)

/-- ITS FALSE NEIGHBOUR: 'it returns false'. Refute it at one input. -/
def fnVictimIsHeaviestEligibleWrong : ChangeSpec := { name := "fnVictimIsHeaviestEligible", fn := fun _ => fun
  | [d1, d2, d3, d4, d5, d6, d7] => { results := [.lit (.bool false)], args := [d1, d2, d3, d4, d5, d6, d7] }
  | _ => none }
def FnVictimIsHeaviestEligibleWrongFalsely : Prop := fnVictimIsHeaviestEligibleRow.holds Try.pinned (OpenSpec.ofChange fnVictimIsHeaviestEligibleWrong)

/-- 'zzlaws_internal_store_b1.FnOutweighsIsStrictOrder': WHATEVER THE INPUT: true; the input reads as it did. -/
def fnOutweighsIsStrictOrderSpec : ChangeSpec := { name := "fnOutweighsIsStrictOrder", fn := fun _ => fun
  | [d1, d2, d3, d4, d5] => { results := [.lit (.bool true)], args := [d1, d2, d3, d4, d5] }
  | _ => none }
def fnOutweighsIsStrictOrderRow : OpenClaim := { program := "qxb6601359a", sum := "ccfd4cfc86b2a8c3c51af84b89bc07885f1c15996fa60e79835a3fcd5b731250", func := "example.com/moorline/moorline/zzlaws_internal_store_b1.FnOutweighsIsStrictOrder", spec := "fnOutweighsIsStrictOrder", apart := false }
def FnOutweighsIsStrictOrderSaid : Prop := fnOutweighsIsStrictOrderRow.holds Try.pinned (OpenSpec.ofChange fnOutweighsIsStrictOrderSpec)

/-- ITS FALSE NEIGHBOUR: 'it returns false'. Refute it at one input. -/
def fnOutweighsIsStrictOrderWrong : ChangeSpec := { name := "fnOutweighsIsStrictOrder", fn := fun _ => fun
  | [d1, d2, d3, d4, d5] => { results := [.lit (.bool false)], args := [d1, d2, d3, d4, d5] }
  | _ => none }
def FnOutweighsIsStrictOrderWrongFalsely : Prop := fnOutweighsIsStrictOrderRow.holds Try.pinned (OpenSpec.ofChange fnOutweighsIsStrictOrderWrong)

/-- 'zzlaws_internal_store_b1.FnOutweighsIsTransitive': WHATEVER THE INPUT: true; the input reads as it did. -/
def fnOutweighsIsTransitiveSpec : ChangeSpec := { name := "fnOutweighsIsTransitive", fn := fun _ => fun
  | [d1, d2, d3, d4, d5, d6, d7] => { results := [.lit (.bool true)], args := [d1, d2, d3, d4, d5, d6, d7] }
  | _ => none }
def fnOutweighsIsTransitiveRow : OpenClaim := { program := "qxb6601359a", sum := "ccfd4cfc86b2a8c3c51af84b89bc07885f1c15996fa60e79835a3fcd5b731250", func := "example.com/moorline/moorline/zzlaws_internal_store_b1.FnOutweighsIsTransitive", spec := "fnOutweighsIsTransitive", apart := false }
def FnOutweighsIsTransitiveSaid : Prop := fnOutweighsIsTransitiveRow.holds Try.pinned (OpenSpec.ofChange fnOutweighsIsTransitiveSpec)

/-- ITS FALSE NEIGHBOUR: 'it returns false'. Refute it at one input. -/
def fnOutweighsIsTransitiveWrong : ChangeSpec := { name := "fnOutweighsIsTransitive", fn := fun _ => fun
  | [d1, d2, d3, d4, d5, d6, d7] => { results := [.lit (.bool false)], args := [d1, d2, d3, d4, d5, d6, d7] }
  | _ => none }
def FnOutweighsIsTransitiveWrongFalsely : Prop := fnOutweighsIsTransitiveRow.holds Try.pinned (OpenSpec.ofChange fnOutweighsIsTransitiveWrong)

/-- 'zzlaws_internal_store_b1.FnOutweighsMonotone': WHATEVER THE INPUT: true; the input reads as it did. -/
def fnOutweighsMonotoneSpec : ChangeSpec := { name := "fnOutweighsMonotone", fn := fun _ => fun
  | [d1, d2, d3, d4, d5, d6, d7] => { results := [.lit (.bool true)], args := [d1, d2, d3, d4, d5, d6, d7] }
  | _ => none }
def fnOutweighsMonotoneRow : OpenClaim := { program := "qxb6601359a", sum := "ccfd4cfc86b2a8c3c51af84b89bc07885f1c15996fa60e79835a3fcd5b731250", func := "example.com/moorline/moorline/zzlaws_internal_store_b1.FnOutweighsMonotone", spec := "fnOutweighsMonotone", apart := false }
def FnOutweighsMonotoneSaid : Prop := fnOutweighsMonotoneRow.holds Try.pinned (OpenSpec.ofChange fnOutweighsMonotoneSpec)

/-- ITS FALSE NEIGHBOUR: 'it returns false'. Refute it at one input. -/
def fnOutweighsMonotoneWrong : ChangeSpec := { name := "fnOutweighsMonotone", fn := fun _ => fun
  | [d1, d2, d3, d4, d5, d6, d7] => { results := [.lit (.bool false)], args := [d1, d2, d3, d4, d5, d6, d7] }
  | _ => none }
def FnOutweighsMonotoneWrongFalsely : Prop := fnOutweighsMonotoneRow.holds Try.pinned (OpenSpec.ofChange fnOutweighsMonotoneWrong)

end Rows
end Go.Proofs.Qxb6601359a
