/-
  'Rows.FnDisallowedDeviceIsFirstUnnamedSaid' ('example.com/echotag/echotag/zzlaws_internal_model_b1.FnDisallowedDeviceIsFirstUnnamed'). The walk stands in the text Qxb6601690aLaw; the row's step after the guide's own way (its skeleton tool's text for a law over slices) at this function's number and types.
-/
import Derived.Test.Qxb6601690aLaw
import Derived.Test.Qxb6601690aOpen
import Derived.WalkKit
import Derived.ProofKit
import Derived.OpenShut
import Derived.ShutString
import Derived.ChangeOld
import Derived.Below
namespace Go.Proofs.Qxb6601690a.fnDisallowedDeviceIsFirstUnnamed
open Go.ChangeShapes Go.WideShapes Go.ChangeAt Go.RowKit
open Go.ChangeMaps (open_string shut_string)
set_option linter.unusedVariables false

theorem own : ownKnob Try.prog.godebug = none := by kernel_rfl
theorem laidOut : laidOutB Try.prog = true := by kernel_rfl

set_option maxRecDepth 100000 in
theorem lifted (os : Os) (started : os.Started) (H : Type) (enc : TypeId × Value → H) :
    ReturnsInHanded {} Try.checked os 3 .any (Rows.fnDisallowedDeviceIsFirstUnnamedSpec.pre6 enc Try.prog Try.f3 Rows.fnDisallowedDeviceIsFirstUnnamedRow.domain false) (Rows.fnDisallowedDeviceIsFirstUnnamedSpec.post enc Try.prog Try.f3 false true false false) := by
  refine returnsInHanded_of_change (C := Try.checked) own started (by kernel_rfl) Try.func3
    (ChangeSpec.witness6 (enc := enc) (C := Try.checked) false ⟨#[], #[.string ByteArray.empty, .slice none 0 0, .slice none 0 0, .slice none 0 0, .slice none 0 0], []⟩ 8 (by kernel_rfl) (by kernel_rfl) (by kernel_rfl) (by kernel_rfl)) ?_
  intro W base args ds gs before hval0 hW hcnd _
  have hval : ∀ (j : Nat) t v, Try.f3.params[j]? = some t → args[j]? = some v → Value.okWide Try.prog W .any base t v := hval0
  have hW' := hW
  obtain ⟨p, q, hA0, hV, rfl, hfz, hnd⟩ := hW
  have hA : DataW.TrodAll enc Try.prog W 0 (fun _ => true) true Try.f3.params.toList args.toList ds p := hA0
  rw [Try.params3] at hA hval
  obtain ⟨v0, vs0, d0, ds0, p0, q0, hargs, rfl, rfl, h0, r0⟩ := trodAll_cons hA
  obtain ⟨v1, vs1, d1, ds1, p1, q1, rfl, rfl, rfl, h1, r1⟩ := trodAll_cons r0
  obtain ⟨v2, vs2, d2, ds2, p2, q2, rfl, rfl, rfl, h2, r2⟩ := trodAll_cons r1
  obtain ⟨v3, vs3, d3, ds3, p3, q3, rfl, rfl, rfl, h3, r3⟩ := trodAll_cons r2
  obtain ⟨v4, vs4, d4, ds4, p4, q4, rfl, rfl, rfl, h4, r4⟩ := trodAll_cons r3
  obtain ⟨rfl, rfl, rfl⟩ := trodAll_nil r4
  obtain rfl : args = #[v0, v1, v2, v3, v4] := by cases args; simp_all
  obtain ⟨rfl, rfl⟩ := trodVars_none hV
  obtain ⟨a0, rfl, rfl, rfl, w0⟩ := open_string Try.underlying9 (hval 0 9 v0 rfl rfl) h0
  obtain ⟨a1, len1, cap1, rfl⟩ := okWide_slice Try.underlying22 (hval 1 22 v1 rfl rfl)
  have k1 := h1
  have lt1 : ∀ x ∈ p1, x.block < W.heap.size := by obtain ⟨m, hm⟩ := k1; exact DataW.trod_lt m _ _ _ hm
  obtain ⟨b1, b2, b3⟩ : len1 ≤ 9223372036854775807 ∧ Mem.U8 W a1 len1 ∧ (a1 = none → len1 = 0 ∧ cap1 = 0) := by
    obtain ⟨fuel, hf⟩ := h1
    exact Open.open_bytes hf
  obtain ⟨a2, len2, cap2, rfl⟩ := okWide_slice Try.underlying23 (hval 2 23 v2 rfl rfl)
  have k2 := h2
  have lt2 : ∀ x ∈ p2, x.block < W.heap.size := by obtain ⟨m, hm⟩ := k2; exact DataW.trod_lt m _ _ _ hm
  obtain ⟨o1, o2, So, o3, o4⟩ : len2 ≤ 9223372036854775807 ∧ (a2 = none → len2 = 0 ∧ cap2 = 0) ∧ ∃ s : Nat → ByteArray, Mem.Strs W a2 len2 s ∧ ∀ i, i < len2 → (s i).size ≤ 9223372036854775807 := by
    obtain ⟨fuel, hf⟩ := h2
    exact Open.open_strings' hf
  obtain ⟨a3, len3, cap3, rfl⟩ := okWide_slice Try.underlying24 (hval 3 24 v3 rfl rfl)
  have k3 := h3
  have lt3 : ∀ x ∈ p3, x.block < W.heap.size := by obtain ⟨m, hm⟩ := k3; exact DataW.trod_lt m _ _ _ hm
  obtain ⟨t1, t2, Pt, Id, F, FL, FC, t3, t4, t5, t6⟩ : len3 ≤ 9223372036854775807 ∧ (a3 = none → len3 = 0 ∧ cap3 = 0) ∧ ∃ (Pt : Nat → Option Addr) (Id : Nat → ByteArray) (F : Nat → Option Addr) (FL FC : Nat → Nat), Tgt.TP W a3 len3 Pt Id F FL FC ∧
      (∀ i, i < len3 → (∀ p, Pt i = some p → (Id i).size ≤ 9223372036854775807) ∧ FL i ≤ 9223372036854775807) ∧ (∀ i, i < len3 → Mem.U8 W (F i) (FL i)) ∧ (∀ i, i < len3 → F i = none → FL i = 0 ∧ FC i = 0) := by
    obtain ⟨fuel, hf⟩ := h3
    exact Open.open_targets hf
  obtain ⟨a4, len4, cap4, rfl⟩ := okWide_slice Try.underlying23 (hval 4 23 v4 rfl rfl)
  have k4 := h4
  have lt4 : ∀ x ∈ p4, x.block < W.heap.size := by obtain ⟨m, hm⟩ := k4; exact DataW.trod_lt m _ _ _ hm
  obtain ⟨e1, e2, Dv, e3, e4⟩ : len4 ≤ 9223372036854775807 ∧ (a4 = none → len4 = 0 ∧ cap4 = 0) ∧ ∃ s : Nat → ByteArray, Mem.Strs W a4 len4 s ∧ ∀ i, i < len4 → (s i).size ≤ 9223372036854775807 := by
    obtain ⟨fuel, hf⟩ := h4
    exact Open.open_strings' hf
  clear hA0 hval0
  refine (Law.walk a0 a1 len1 cap1 a2 len2 cap2 So a3 len3 cap3 Pt Id F FL FC a4 len4 cap4 Dv W (by unfold maxLen at w0; omega) ⟨b1, o1, t1, e1, b2, b3, o3, o2, o4, t3, t2, t4, t5, t6, e3, e2, e4⟩).mono fun e W' ⟨he, bel⟩ => ?_
  subst he
  exact ⟨_, rfl, _, _, _, [], _, [], hW', trodAll_mk1 (shut_bool Try.underlying4 _), (trodAll_cons_mk (shut_string Try.underlying9 w0) (trodAll_cons_mk (Below.trod laidOut (by kernel_rfl) (of_decide_eq_true (by kernel_rfl)) k1 bel lt1) (trodAll_cons_mk (Below.trod laidOut (by kernel_rfl) (of_decide_eq_true (by kernel_rfl)) k2 bel lt2) (trodAll_cons_mk (Below.trod laidOut (by kernel_rfl) (of_decide_eq_true (by kernel_rfl)) k3 bel lt3) (trodAll_cons_mk (Below.trod laidOut (by kernel_rfl) (of_decide_eq_true (by kernel_rfl)) k4 bel lt4) trodAll_mk0))))), rfl, bel.frame _, fun h => by cases h⟩

theorem over : Rows.fnDisallowedDeviceIsFirstUnnamedRow.holds Try.pinned (OpenSpec.ofChange Rows.fnDisallowedDeviceIsFirstUnnamedSpec) :=
  OpenClaim.holds_of_wide 3 Try.f3 rfl rfl rfl rfl rfl rfl rfl ⟨rfl, rfl, rfl, rfl, rfl⟩ rfl rfl rfl rfl rfl (by kernel_rfl) Try.func3 (by kernel_rfl)
    (of_decide_eq_true (by kernel_rfl)) (by unfold Func.isWrapper; first | (rw [if_pos (by decide +kernel)]; kernel_rfl) | (rw [if_neg (by decide +kernel)]; exact ⟨rfl, rfl⟩))
    (fun os started H enc _ => lifted os started H enc)

/-- ████ THE STATEMENT ████ -/
theorem proved : Rows.FnDisallowedDeviceIsFirstUnnamedSaid := over
#print axioms proved
end Go.Proofs.Qxb6601690a.fnDisallowedDeviceIsFirstUnnamed
