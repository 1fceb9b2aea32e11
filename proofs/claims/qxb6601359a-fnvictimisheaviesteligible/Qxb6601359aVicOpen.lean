import Derived.Test.Qxb6601359aVicM
import Derived.Deep.Slices
namespace Go.Proofs.Qxb6601359a.Vic
open Go.ChangeShapes Go.WideShapes Go.ChangeAt Go.RowKit Go.Deep
open Go.Proofs.Qxb6601359a.Mem
set_option linter.unusedVariables false

section
variable {H : Type} {enc : TypeId × Value → H} {w : World} {base : Nat} {spare : Nat → Bool} {held : Bool}

/-- What one kind's reading says. -/
structure Kq where
  nm : ByteArray
  r : Option Addr
  l : Nat
  c : Nat
  z : Nat → Int
  s : Int
  b : Int

theorem add_off (a : Addr) (j : Nat) (hj : j ≠ 0) : a.add j = ⟨a.block, a.off + j, none⟩ := by unfold Addr.add; rw [if_neg hj]

theorem open_kinds {fuel : Nat} {a : Option Addr} {len cap : Nat} {x : DataW H × List MemPlace} (h : DataW.trod enc Try.prog w base spare held fuel 23 [.slice a len cap] = some x) :
    len ≤ maxLen ∧ (a = none → len = 0) ∧ ∃ (Nm : Nat → ByteArray) (R : Nat → Option Addr) (L C : Nat → Nat) (Z : Nat → Nat → Int) (S B : Nat → Int), KIn w a len Nm R L C Z S B := by
  rcases open_slice Try.underlying23 h with ⟨h0, _⟩ | ⟨y, l, c, m, n, D, Pl, h1, hb, hl, hm, hmm, _, hx⟩
  · simp at h0
    obtain ⟨rfl, rfl, rfl⟩ := h0
    exact ⟨by unfold maxLen; omega, fun _ => rfl, fun _ => ByteArray.empty, fun _ => none, fun _ => 0, fun _ => 0, fun _ _ => 0, fun _ => 0, fun _ => 0, ⟨fun i hi => absurd hi (by omega), fun i hi => absurd hi (by omega), fun i hi => absurd hi (by omega), fun i hi => absurd hi (by omega)⟩⟩
  · simp at h1
    obtain ⟨rfl, rfl, rfl⟩ := h1
    have hlm : len ≤ m := by rw [hmm]; split <;> omega
    refine ⟨by omega, (fun h => by cases h), ?_⟩
    have each : ∀ i, i < len → ∃ q : Kq, w.cell? (y.add (i * 4)) = some (.string q.nm) ∧ w.cell? ⟨(y.add (i * 4)).block, (y.add (i * 4)).off + 1, none⟩ = some (.slice q.r q.l q.c) ∧ w.cell? ⟨(y.add (i * 4)).block, (y.add (i * 4)).off + 2, none⟩ = some (.int .u64 q.s) ∧ w.cell? ⟨(y.add (i * 4)).block, (y.add (i * 4)).off + 3, none⟩ = some (.int .i64 q.b) ∧
        q.nm.size ≤ 9223372036854775807 ∧ q.l ≤ 9223372036854775807 ∧ U64 w q.r q.l q.z ∧ (q.r = none → q.l = 0 ∧ q.c = 0) := by
      intro i hi
      obtain ⟨cs', h1, h2⟩ := hx i (by omega)
      rw [cells28] at h1
      obtain ⟨_, hlen, hcell⟩ := World.cells?_some h1
      obtain ⟨xs, k, hk, hxy, _, hxl, hf⟩ := DataW.trod_struct Try.underlying28 h2
      match xs, hxl, cs', hlen with
      | [y0, y1, y2, y3], _, [v0, v1, v2, v3], _ =>
        have g0 := hf 0 _ rfl
        have g1 := hf 1 _ rfl
        have g2 := hf 2 _ rfl
        have g3 := hf 3 _ rfl
        have t9 : Try.prog.cellsOf 9 = 1 := by kernel_rfl
        have t26 : Try.prog.cellsOf 26 = 1 := by kernel_rfl
        have t24 : Try.prog.cellsOf 24 = 1 := by kernel_rfl
        have t3 : Try.prog.cellsOf 3 = 1 := by kernel_rfl
        simp [t9, t26, t24, t3] at g0 g1 g2 g3
        obtain ⟨s0, e0, _, hs0⟩ := DataW.trod_string Try.underlying9 g0
        obtain ⟨n2, e2, _, _⟩ := DataW.trod_int Try.underlying24 g2
        obtain ⟨n3, e3, _, _⟩ := DataW.trod_int Try.underlying3 g3
        simp at e0 e2 e3
        subst e0 e2 e3
        have c0 : w.cell? (y.add (i * 4)) = _ := hcell 0 (by omega)
        have c1 := hcell 1 (by omega)
        have c2 := hcell 2 (by omega)
        have c3 := hcell 3 (by omega)
        rw [add_off _ 1 (by omega)] at c1
        rw [add_off _ 2 (by omega)] at c2
        rw [add_off _ 3 (by omega)] at c3
        unfold maxLen at hs0 hm
        rcases open_ints Try.underlying26 Try.underlying24 t24 g1 with ⟨e1, _⟩ | ⟨ya, la, ca, zs, e1, _, hla, hca, hzl, _, hzc, _⟩
        · simp at e1
          subst e1
          exact ⟨⟨s0, none, 0, 0, fun _ => 0, n2, n3⟩, by simpa using c0, by simpa using c1, by simpa using c2, by simpa using c3, by show s0.size ≤ _; omega, by show 0 ≤ _; omega, (fun j hj => absurd hj (by simp) : U64 w none 0 fun _ => 0), fun _ => ⟨rfl, rfl⟩⟩
        · simp at e1
          subst e1
          unfold maxLen at hca
          have hzl' : la ≤ zs.length := by rw [hzl]; split <;> omega
          exact ⟨⟨s0, some ya, la, ca, fun j => zs.getD j 0, n2, n3⟩, by simpa using c0, by simpa using c1, by simpa using c2, by simpa using c3, by show s0.size ≤ _; omega, by show la ≤ _; omega, (fun j hj => ⟨ya, rfl, hzc j (by omega)⟩ : U64 w (some ya) la fun j => zs.getD j 0), fun h => by cases h⟩
    have : Inhabited Kq := ⟨⟨ByteArray.empty, none, 0, 0, fun _ => 0, 0, 0⟩⟩
    obtain ⟨q, hq⟩ := choose_lt each
    exact ⟨fun i => (q i).nm, fun i => (q i).r, fun i => (q i).l, fun i => (q i).c, fun i => (q i).z, fun i => (q i).s, fun i => (q i).b,
      ⟨fun i hi => ⟨y, rfl, (hq i hi).1, (hq i hi).2.1, (hq i hi).2.2.1, (hq i hi).2.2.2.1⟩, fun i hi => ⟨(hq i hi).2.2.2.2.1, (hq i hi).2.2.2.2.2.1⟩, fun i hi => (hq i hi).2.2.2.2.2.2.1, fun i hi => (hq i hi).2.2.2.2.2.2.2⟩⟩
end
end Go.Proofs.Qxb6601359a.Vic
