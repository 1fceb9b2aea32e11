import Derived.Test.Qxb6601690aTgt
import Derived.Deep.Slices
import Derived.Deep.Strs
namespace Go.Proofs.Qxb6601690a.Open
open Go.ChangeShapes Go.WideShapes Go.ChangeAt Go.RowKit Go.Deep
open Go.Proofs.Qxb6601690a.Mem Go.Proofs.Qxb6601690a.Tgt
set_option linter.unusedVariables false

section
variable {H : Type} {enc : TypeId × Value → H} {w : World} {base : Nat} {spare : Nat → Bool} {held : Bool}
theorem add_off (a : Addr) (j : Nat) (hj : j ≠ 0) : a.add j = ⟨a.block, a.off + j, none⟩ := by unfold Addr.add; rw [if_neg hj]
theorem t9 : Try.prog.cellsOf 9 = 1 := by kernel_rfl
theorem t5 : Try.prog.cellsOf 5 = 1 := by kernel_rfl
theorem t37 : Try.prog.cellsOf 37 = 1 := by kernel_rfl
theorem t22 : Try.prog.cellsOf 22 = 1 := by kernel_rfl

theorem open_bytes {fuel : Nat} {a : Option Addr} {len cap : Nat} {x : DataW H × List MemPlace} (h : DataW.trod enc Try.prog w base spare held fuel 22 [.slice a len cap] = some x) :
    len ≤ 9223372036854775807 ∧ U8 w a len ∧ (a = none → len = 0 ∧ cap = 0) := by
  rcases open_ints Try.underlying22 Try.underlying5 t5 h with ⟨h0, _⟩ | ⟨y, l, c, zs, h1, _, hl, hc, hzl, _, hzc, _⟩
  · simp at h0
    obtain ⟨rfl, rfl, rfl⟩ := h0
    exact ⟨by omega, fun i hi => absurd hi (by omega), fun _ => ⟨rfl, rfl⟩⟩
  · simp at h1
    obtain ⟨rfl, rfl, rfl⟩ := h1
    unfold maxLen at hc
    have hzl' : len ≤ zs.length := by rw [hzl]; split <;> omega
    exact ⟨by omega, fun i hi => ⟨y, _, rfl, hzc i (by omega)⟩, fun h => by cases h⟩

theorem open_strings' {fuel : Nat} {a : Option Addr} {len cap : Nat} {x : DataW H × List MemPlace} (h : DataW.trod enc Try.prog w base spare held fuel 23 [.slice a len cap] = some x) :
    len ≤ 9223372036854775807 ∧ (a = none → len = 0 ∧ cap = 0) ∧ ∃ s : Nat → ByteArray, Strs w a len s ∧ ∀ i, i < len → (s i).size ≤ 9223372036854775807 := by
  rcases open_strs Try.underlying23 Try.underlying9 t9 h with ⟨h0, _⟩ | ⟨y, l, c, m, Sx, h1, _, hl, hc, hm, _, hx⟩
  · simp at h0
    obtain ⟨rfl, rfl, rfl⟩ := h0
    exact ⟨by omega, fun _ => ⟨rfl, rfl⟩, fun _ => ByteArray.empty, fun i hi => absurd hi (by omega), fun i hi => absurd hi (by omega)⟩
  · simp at h1
    obtain ⟨rfl, rfl, rfl⟩ := h1
    unfold maxLen at hc
    have hlm : len ≤ m := by rw [hm]; split <;> omega
    exact ⟨by omega, (fun h => by cases h), Sx, fun i hi => ⟨y, rfl, (hx i (by omega)).1⟩, fun i hi => by have := (hx i (by omega)).2; unfold maxLen at this; omega⟩

/-- What one target's reading says. -/
structure Tq where
  p : Option Addr
  id : ByteArray
  f : Option Addr
  l : Nat
  c : Nat

theorem open_targets {fuel : Nat} {a : Option Addr} {len cap : Nat} {x : DataW H × List MemPlace} (h : DataW.trod enc Try.prog w base spare held fuel 24 [.slice a len cap] = some x) :
    len ≤ 9223372036854775807 ∧ (a = none → len = 0 ∧ cap = 0) ∧ ∃ (Pt : Nat → Option Addr) (Id : Nat → ByteArray) (F : Nat → Option Addr) (FL FC : Nat → Nat), TP w a len Pt Id F FL FC ∧
      (∀ i, i < len → (∀ p, Pt i = some p → (Id i).size ≤ 9223372036854775807) ∧ FL i ≤ 9223372036854775807) ∧ (∀ i, i < len → U8 w (F i) (FL i)) ∧ (∀ i, i < len → F i = none → FL i = 0 ∧ FC i = 0) := by
  rcases open_slice Try.underlying24 h with ⟨h0, _⟩ | ⟨y, l, c, m, n, D, Pl, h1, hb, hl, hm, hmm, _, hx⟩
  · simp at h0
    obtain ⟨rfl, rfl, rfl⟩ := h0
    exact ⟨by omega, fun _ => ⟨rfl, rfl⟩, fun _ => none, fun _ => ByteArray.empty, fun _ => none, fun _ => 0, fun _ => 0, ⟨fun i hi => absurd hi (by omega), fun i hi => absurd hi (by omega)⟩, fun i hi => absurd hi (by omega), fun i hi => absurd hi (by omega), fun i hi => absurd hi (by omega)⟩
  · simp at h1
    obtain ⟨rfl, rfl, rfl⟩ := h1
    have hlm : len ≤ m := by rw [hmm]; split <;> omega
    unfold maxLen at hm
    refine ⟨by omega, (fun h => by cases h), ?_⟩
    have each : ∀ i, i < len → ∃ q : Tq, w.cell? (y.add (i * 2)) = some (.pointer q.p) ∧ w.cell? ⟨(y.add (i * 2)).block, (y.add (i * 2)).off + 1, none⟩ = some (.slice q.f q.l q.c) ∧ (∀ p, q.p = some p → w.cell? p = some (.string q.id) ∧ q.id.size ≤ 9223372036854775807) ∧
        q.l ≤ 9223372036854775807 ∧ U8 w q.f q.l ∧ (q.f = none → q.l = 0 ∧ q.c = 0) := by
      intro i hi
      obtain ⟨cs', h1, h2⟩ := hx i (by omega)
      rw [cells41] at h1
      obtain ⟨_, hlen, hcell⟩ := World.cells?_some h1
      obtain ⟨xs, k, hk, hxy, _, hxl, hf⟩ := DataW.trod_struct Try.underlying41 h2
      match xs, hxl, cs', hlen with
      | [y0, y1], _, [v0, v1], _ =>
        have g0 := hf 0 _ rfl
        have g1 := hf 1 _ rfl
        simp [t37, t22] at g0 g1
        have c0 : w.cell? (y.add (i * 2)) = _ := hcell 0 (by omega)
        have c1 := hcell 1 (by omega)
        rw [add_off _ 1 (by omega)] at c1
        have hv1 : ∃ fa la ca, v1 = .slice fa la ca := by
          rcases open_ints Try.underlying22 Try.underlying5 t5 g1 with ⟨e1, _⟩ | ⟨ya, la, ca, zs, e1, _⟩
          · simp at e1; exact ⟨_, _, _, e1⟩
          · simp at e1; exact ⟨_, _, _, e1⟩
        obtain ⟨fa, la, ca, rfl⟩ := hv1
        obtain ⟨ob1, ob2, ob3⟩ := open_bytes g1
        rcases DataW.trod_pointer Try.underlying37 g0 with ⟨e0, _⟩ | ⟨p, cp, yp, np, _, e0, _, hcp, hsp⟩
        · simp at e0
          subst e0
          exact ⟨⟨none, ByteArray.empty, fa, la, ca⟩, by simpa using c0, by simpa using c1, (fun p hp => by cases hp), ob1, ob2, ob3⟩
        · simp at e0
          subst e0
          rw [t9] at hcp
          obtain ⟨s, es, _, hss⟩ := DataW.trod_string Try.underlying9 hsp
          subst es
          unfold maxLen at hss
          exact ⟨⟨some p, s, fa, la, ca⟩, by simpa using c0, by simpa using c1, (fun p' hp => by cases hp; exact ⟨cell_of_cells?_one hcp, by show s.size ≤ _; omega⟩), ob1, ob2, ob3⟩
    have : Inhabited Tq := ⟨⟨none, ByteArray.empty, none, 0, 0⟩⟩
    obtain ⟨q, hq⟩ := choose_lt each
    exact ⟨fun i => (q i).p, fun i => (q i).id, fun i => (q i).f, fun i => (q i).l, fun i => (q i).c, ⟨fun i hi => ⟨y, rfl, (hq i hi).1, (hq i hi).2.1⟩, fun i hi p hp => ((hq i hi).2.2.1 p hp).1⟩, fun i hi => ⟨fun p hp => ((hq i hi).2.2.1 p hp).2, (hq i hi).2.2.2.1⟩, fun i hi => (hq i hi).2.2.2.2.1, fun i hi => (hq i hi).2.2.2.2.2⟩
end
end Go.Proofs.Qxb6601690a.Open
