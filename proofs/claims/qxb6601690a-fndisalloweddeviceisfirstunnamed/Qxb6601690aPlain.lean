import Derived.RowKit
/-! Plain words of 'the first device that no entry names': no Go in sight. -/
namespace Go.Proofs.Qxb6601690a.Plain

/-- Does an entry name d? 'pt': has the entry an id; 'id': which. -/
def named (n : Nat) (pt : Nat → Bool) (id : Nat → List UInt8) (d : List UInt8) : Bool := (List.range n).any fun i => pt i && decide (id i = d)
theorem named_succ (n : Nat) (pt : Nat → Bool) (id : Nat → List UInt8) (d : List UInt8) : named (n + 1) pt id d = (named n pt id d || (pt n && decide (id n = d))) := by
  unfold named; rw [List.range_succ]; simp
theorem named_iff (n : Nat) (pt : Nat → Bool) (id : Nat → List UInt8) (d : List UInt8) : named n pt id d = true ↔ ∃ i, i < n ∧ pt i = true ∧ id i = d := by
  unfold named
  rw [List.any_eq_true]
  constructor
  · rintro ⟨i, hi, h⟩
    rw [Bool.and_eq_true] at h
    exact ⟨i, List.mem_range.1 hi, h.1, of_decide_eq_true h.2⟩
  · rintro ⟨i, hi, h1, h2⟩
    exact ⟨i, List.mem_range.2 hi, by rw [h1, h2]; simp⟩
/-- The first of m at which 'ok' says no. -/
def First (ok : Nat → Bool) (m : Nat) : Option Nat → Prop
  | none => ∀ k, k < m → ok k = true
  | some k => k < m ∧ ok k = false ∧ ∀ j, j < k → ok j = true
theorem first_one (ok : Nat → Bool) (m : Nat) (o o' : Option Nat) (h : First ok m o) (h' : First ok m o') : o = o' := by
  cases o with
  | none => cases o' with
    | none => rfl
    | some k => have := h k h'.1; rw [h'.2.1] at this; cases this
  | some k => cases o' with
    | none => have := h' k h.1; rw [h.2.1] at this; cases this
    | some k' =>
      rcases Nat.lt_trichotomy k k' with e | e | e
      · have := h'.2.2 k e; rw [h.2.1] at this; cases this
      · rw [e]
      · have := h.2.2 k' e; rw [h'.2.1] at this; cases this
end Go.Proofs.Qxb6601690a.Plain
