import Derived.Test.Qxb6601594aMem
import Derived.Deep.Slices
namespace Go.Proofs.Qxb6601594a.Open
open Go.ChangeShapes Go.WideShapes Go.ChangeAt Go.RowKit Go.Deep
open Go.Proofs.Qxb6601594a.Mem Go.Proofs.Qxb6601594a.Map
set_option linter.unusedVariables false

section
variable {H : Type} {enc : TypeId × Value → H} {w : World} {base : Nat} {spare : Nat → Bool} {held : Bool}
theorem add_off (a : Addr) (j : Nat) (hj : j ≠ 0) : a.add j = ⟨a.block, a.off + j, none⟩ := by unfold Addr.add; rw [if_neg hj]
theorem t34 : Try.prog.cellsOf 34 = 1 := by kernel_rfl

/-- What one label's reading says. -/
structure Lq where
  k : ByteArray
  v : ByteArray

theorem open_role {fuel : Nat} {a : Option Addr} {len cap : Nat} {x : DataW H × List MemPlace} (h : DataW.trod enc Try.prog w base spare held fuel 34 [.slice a len cap] = some x) :
    len ≤ 9223372036854775807 ∧ ∃ K V : Nat → ByteArray, RoleIn w a len K V := by
  rcases open_slice Try.underlying34 h with ⟨h0, _⟩ | ⟨y, l, c, m, n, D, Pl, h1, hb, hl, hm, hmm, _, hx⟩
  · simp at h0
    obtain ⟨rfl, rfl, rfl⟩ := h0
    exact ⟨by omega, fun _ => ByteArray.empty, fun _ => ByteArray.empty, ⟨fun i hi => absurd hi (by omega), fun i hi => absurd hi (by omega)⟩⟩
  · simp at h1
    obtain ⟨rfl, rfl, rfl⟩ := h1
    have hlm : len ≤ m := by rw [hmm]; split <;> omega
    unfold maxLen at hm
    refine ⟨by omega, ?_⟩
    have each : ∀ i, i < len → ∃ q : Lq, w.cell? (y.add (i * 2)) = some (.string q.k) ∧ w.cell? ⟨(y.add (i * 2)).block, (y.add (i * 2)).off + 1, none⟩ = some (.string q.v) ∧ q.k.size ≤ 9223372036854775807 ∧ q.v.size ≤ 9223372036854775807 := by
      intro i hi
      obtain ⟨cs', h1, h2⟩ := hx i (by omega)
      rw [cells36] at h1
      obtain ⟨_, hlen, hcell⟩ := World.cells?_some h1
      obtain ⟨xs, k, hk, hxy, _, hxl, hf⟩ := DataW.trod_struct Try.underlying36 h2
      match xs, hxl, cs', hlen with
      | [y0, y1], _, [v0, v1], _ =>
        have g0 := hf 0 _ rfl
        have g1 := hf 1 _ rfl
        simp [cells9] at g0 g1
        have c0 : w.cell? (y.add (i * 2)) = _ := hcell 0 (by omega)
        have c1 := hcell 1 (by omega)
        rw [add_off _ 1 (by omega)] at c1
        obtain ⟨s0, e0, _, hs0⟩ := DataW.trod_string Try.underlying9 g0
        obtain ⟨s1, e1, _, hs1⟩ := DataW.trod_string Try.underlying9 g1
        simp at e0 e1
        subst e0 e1
        unfold maxLen at hs0 hs1
        exact ⟨⟨s0, s1⟩, by simpa using c0, by simpa using c1, by show s0.size ≤ _; omega, by show s1.size ≤ _; omega⟩
    have : Inhabited Lq := ⟨⟨ByteArray.empty, ByteArray.empty⟩⟩
    obtain ⟨q, hq⟩ := choose_lt each
    exact ⟨fun i => (q i).k, fun i => (q i).v, ⟨fun i hi => ⟨y, rfl, (hq i hi).1, (hq i hi).2.1⟩, fun i hi => ⟨(hq i hi).2.2.1, (hq i hi).2.2.2⟩⟩⟩

/-- What one role's reading says. -/
structure Rq where
  r : Option Addr
  l : Nat
  c : Nat
  k : Nat → ByteArray
  v : Nat → ByteArray

theorem open_labels {fuel : Nat} {a : Option Addr} {len cap : Nat} {x : DataW H × List MemPlace} (h : DataW.trod enc Try.prog w base spare held fuel 22 [.slice a len cap] = some x) :
    len ≤ 9223372036854775807 ∧ ∃ (R : Nat → Option Addr) (L C : Nat → Nat) (K V : Nat → Nat → ByteArray), LabIn w a len R L C K V := by
  rcases open_slice1 Try.underlying22 t34 h with ⟨h0, _⟩ | ⟨y, l, c, m, n, Vv, D, Pl, h1, hb, hl, hm, hmm, _, hx⟩
  · simp at h0
    obtain ⟨rfl, rfl, rfl⟩ := h0
    exact ⟨by omega, fun _ => none, fun _ => 0, fun _ => 0, fun _ _ => ByteArray.empty, fun _ _ => ByteArray.empty, ⟨fun i hi => absurd hi (by omega), fun i hi => absurd hi (by omega), fun i hi => absurd hi (by omega)⟩⟩
  · simp at h1
    obtain ⟨rfl, rfl, rfl⟩ := h1
    have hlm : len ≤ m := by rw [hmm]; split <;> omega
    unfold maxLen at hm
    refine ⟨by omega, ?_⟩
    have each : ∀ i, i < len → ∃ q : Rq, w.cell? (y.add i) = some (.slice q.r q.l q.c) ∧ q.l ≤ 9223372036854775807 ∧ RoleIn w q.r q.l q.k q.v := by
      intro i hi
      obtain ⟨c0, g0⟩ := hx i (by omega)
      have hv : ∃ fa la ca, Vv i = .slice fa la ca := by
        rcases open_slice Try.underlying34 g0 with ⟨e1, _⟩ | ⟨ya, la, ca, _, _, _, _, e1, _⟩
        · simp at e1; exact ⟨_, _, _, e1⟩
        · simp at e1; exact ⟨_, _, _, e1⟩
      obtain ⟨fa, la, ca, hv⟩ := hv
      rw [hv] at g0 c0
      obtain ⟨hla, K, V, hR⟩ := open_role g0
      exact ⟨⟨fa, la, ca, K, V⟩, c0, hla, hR⟩
    have : Inhabited Rq := ⟨⟨none, 0, 0, fun _ => ByteArray.empty, fun _ => ByteArray.empty⟩⟩
    obtain ⟨q, hq⟩ := choose_lt each
    exact ⟨fun i => (q i).r, fun i => (q i).l, fun i => (q i).c, fun i => (q i).k, fun i => (q i).v, ⟨fun i hi => ⟨y, rfl, (hq i hi).1⟩, fun i hi => (hq i hi).2.1, fun i hi => (hq i hi).2.2⟩⟩
end
end Go.Proofs.Qxb6601594a.Open
