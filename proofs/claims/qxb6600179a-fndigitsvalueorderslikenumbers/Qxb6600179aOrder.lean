import Derived.Test.Qxb6600179aPlain
/-! Plain mathematics of 'compares like numbers': no Go in sight. -/
namespace Go.Proofs.Qxb6600179a.Order
open Go.RowKit
open Go.Proofs.Qxb6600179a.Plain

/-- 'zzStripZeros'. -/
def strip : List UInt8 → List UInt8
  | [] => []
  | [c] => [c]
  | c :: d :: l => if c.toNat = 48 then strip (d :: l) else c :: d :: l
/-- The comparison of two strings of one length. -/
def lexc : List UInt8 → List UInt8 → Int
  | a :: as, b :: bs => if a.toNat < b.toNat then -1 else if b.toNat < a.toNat then 1 else lexc as bs
  | _, _ => 0
/-- 'zzCompareDecimal'. -/
def cmpd (a b : List UInt8) : Int := if a.length < b.length then -1 else if b.length < a.length then 1 else lexc a b
/-- The text of the greatest int64. -/
def maxText : List UInt8 := [57, 50, 50, 51, 51, 55, 50, 48, 51, 54, 56, 53, 52, 55, 55, 53, 56, 48, 55]

theorem alld_cons (c : UInt8) (l : List UInt8) : alld (c :: l) = (isd c.toNat && alld l) := by simp [alld]
theorem strip_cons2 (c d : UInt8) (l : List UInt8) : strip (c :: d :: l) = if c.toNat = 48 then strip (d :: l) else c :: d :: l := by rw [strip]
theorem strip_ne (l : List UInt8) (h : l ≠ []) : strip l ≠ [] := by
  induction l with
  | nil => exact absurd rfl h
  | cons c l ih =>
    cases l with
    | nil => simp [strip]
    | cons d l =>
      rw [strip_cons2]
      split
      · exact ih (by simp)
      · simp
theorem strip_alld (l : List UInt8) (h : alld l = true) : alld (strip l) = true := by
  induction l with
  | nil => exact h
  | cons c l ih =>
    cases l with
    | nil => exact h
    | cons d l =>
      rw [strip_cons2]
      split
      · apply ih; rw [alld_cons] at h; simp at h; exact h.2
      · exact h
theorem sub48_zero (c : UInt8) (h : c.toNat = 48) : sub48 c = 0 := by unfold sub48; omega
theorem strip_val (l : List UInt8) : val 0 (strip l) = val 0 l := by
  induction l with
  | nil => rfl
  | cons c l ih =>
    cases l with
    | nil => rfl
    | cons d l =>
      rw [strip_cons2]
      split
      · rename_i hc
        rw [ih, val_cons 0 (d :: l) c, sub48_zero c hc]; rfl
      · rfl
/-- No leading zero. -/
def Bare : List UInt8 → Prop
  | c :: _ :: _ => c.toNat ≠ 48
  | _ => True
theorem strip_bare (l : List UInt8) : Bare (strip l) := by
  induction l with
  | nil => trivial
  | cons c l ih =>
    cases l with
    | nil => trivial
    | cons d l =>
      rw [strip_cons2]
      split
      · exact ih
      · assumption
theorem sub48_bounds (c : UInt8) (h : isd c.toNat = true) : 0 ≤ sub48 c ∧ sub48 c ≤ 9 ∧ sub48 c = (c.toNat : Int) - 48 := by
  have := sub48_digit c h
  simp [isd] at h
  omega
theorem pow_pos (n : Nat) : (1 : Int) ≤ 10 ^ n := by
  have := Int.pow_pos (n := (10 : Int)) (m := n) (by omega)
  omega
theorem val_bounds (l : List UInt8) (h : alld l = true) : 0 ≤ val 0 l ∧ val 0 l < 10 ^ l.length := by
  induction l with
  | nil => simp [val_nil]
  | cons c l ih =>
    rw [alld_cons] at h
    simp at h
    have hb := sub48_bounds c h.1
    have hi := ih h.2
    rw [val_cons, val_shift, List.length_cons, Int.pow_succ]
    have hp := pow_pos l.length
    generalize (10 : Int) ^ l.length = p at *
    have h1 : 0 ≤ (10 * 0 + sub48 c) * p := Int.mul_nonneg (by omega) (by omega)
    have h2 : (10 * 0 + sub48 c) * p ≤ 9 * p := Int.mul_le_mul_of_nonneg_right (by omega) (by omega)
    omega
theorem val_low (c d : UInt8) (l : List UInt8) (h : alld (c :: d :: l) = true) (hc : c.toNat ≠ 48) : 10 ^ (l.length + 1) ≤ val 0 (c :: d :: l) := by
  rw [alld_cons] at h
  simp at h
  have hb := sub48_bounds c h.1
  have hi := val_bounds (d :: l) h.2
  rw [val_cons, val_shift]
  have hp := pow_pos (d :: l).length
  rw [List.length_cons] at *
  generalize (10 : Int) ^ (l.length + 1) = p at *
  have h2 : 1 * p ≤ (10 * 0 + sub48 c) * p := Int.mul_le_mul_of_nonneg_right (by omega) (by omega)
  omega
theorem pow_mono (m n : Nat) (h : m ≤ n) : (10 : Int) ^ m ≤ 10 ^ n := by
  obtain ⟨k, rfl⟩ := Nat.exists_eq_add_of_le h
  rw [Int.pow_add]
  have h1 := pow_pos m
  have h2 := pow_pos k
  generalize (10 : Int) ^ m = p at *
  generalize (10 : Int) ^ k = q at *
  have : p * 1 ≤ p * q := Int.mul_le_mul_of_nonneg_left h2 (by omega)
  omega
theorem short_less (a b : List UInt8) (ha : alld a = true) (hb : alld b = true) (ba : a ≠ []) (hB : Bare b) (h : a.length < b.length) : val 0 a < val 0 b := by
  cases b with
  | nil => simp at h
  | cons c b =>
    cases b with
    | nil => cases a with
      | nil => exact absurd rfl ba
      | cons => simp at h
    | cons d b =>
      have h1 := val_low c d b hb hB
      have h2 := (val_bounds a ha).2
      have h3 := pow_mono a.length (b.length + 1) (by simp at h; omega)
      omega
theorem lexc_spec (a b : List UInt8) (ha : alld a = true) (hb : alld b = true) (h : a.length = b.length) :
    (lexc a b = -1 ∧ val 0 a < val 0 b) ∨ (lexc a b = 1 ∧ val 0 b < val 0 a) ∨ (lexc a b = 0 ∧ val 0 a = val 0 b) := by
  induction a generalizing b with
  | nil => cases b with
    | nil => exact Or.inr (Or.inr ⟨rfl, rfl⟩)
    | cons => simp at h
  | cons c a ih => cases b with
    | nil => simp at h
    | cons d b =>
      rw [alld_cons] at ha hb
      simp at ha hb h
      have b1 := sub48_bounds c ha.1
      have b2 := sub48_bounds d hb.1
      have v1 := val_bounds a ha.2
      have v2 := val_bounds b hb.2
      have i := ih b ha.2 hb.2 h
      rw [lexc, val_cons, val_cons, val_shift, val_shift b, ← h]
      rw [← h] at v2
      have hp := pow_pos a.length
      generalize (10 : Int) ^ a.length = p at *
      split
      · refine Or.inl ⟨rfl, ?_⟩
        have h2 : (10 * 0 + sub48 c + 1) * p ≤ (10 * 0 + sub48 d) * p := Int.mul_le_mul_of_nonneg_right (by omega) (by omega)
        rw [Int.add_mul] at h2
        omega
      · split
        · refine Or.inr (Or.inl ⟨rfl, ?_⟩)
          have h2 : (10 * 0 + sub48 d + 1) * p ≤ (10 * 0 + sub48 c) * p := Int.mul_le_mul_of_nonneg_right (by omega) (by omega)
          rw [Int.add_mul] at h2
          omega
        · have e : sub48 c = sub48 d := by omega
          rw [e]
          omega
theorem cmpd_spec (a b : List UInt8) (ha : alld a = true) (hb : alld b = true) (na : a ≠ []) (nb : b ≠ []) (hA : Bare a) (hB : Bare b) :
    (cmpd a b = -1 ∧ val 0 a < val 0 b) ∨ (cmpd a b = 1 ∧ val 0 b < val 0 a) ∨ (cmpd a b = 0 ∧ val 0 a = val 0 b) := by
  unfold cmpd
  split
  · exact Or.inl ⟨rfl, short_less a b ha hb na hB (by assumption)⟩
  · split
    · exact Or.inr (Or.inl ⟨rfl, short_less b a hb ha nb hA (by assumption)⟩)
    · exact lexc_spec a b ha hb (by omega)
theorem max_alld : alld maxText = true := by decide
theorem max_val : val 0 maxText = 9223372036854775807 := by decide
theorem max_bare : Bare maxText := by simp [Bare, maxText]
theorem max_ne : maxText ≠ [] := by simp [maxText]
/-- The comparison, said by values; the digits' value is the number where it fits. -/
theorem fits_dv (l : List UInt8) (h : alld l = true) (n : l ≠ []) (hf : cmpd (strip l) maxText ≤ 0) : dv 0 l = val 0 (strip l) ∧ 0 ≤ val 0 (strip l) := by
  have v0 := (val_bounds l h).1
  have hr := dv_range l 0 (by omega) (by omega)
  have hv : val 0 l ≤ 9223372036854775807 := by
    have := cmpd_spec (strip l) maxText (strip_alld l h) max_alld (strip_ne l n) max_ne (strip_bare l) max_bare
    rw [max_val, strip_val] at this
    omega
  rw [strip_val]
  refine ⟨?_, v0⟩
  rw [← wrap64_id (dv 0 l) hr.1 hr.2, dv_val, wrap64_id _ (by omega) hv]
theorem orders (a b : List UInt8) (ha : alld a = true) (hb : alld b = true) (na : a ≠ []) (nb : b ≠ []) (fa : cmpd (strip a) maxText ≤ 0) (fb : cmpd (strip b) maxText ≤ 0) :
    0 ≤ dv 0 a ∧ 0 ≤ dv 0 b ∧ ((cmpd (strip a) (strip b) = -1 ∧ dv 0 a < dv 0 b) ∨ (cmpd (strip a) (strip b) = 1 ∧ dv 0 b < dv 0 a) ∨ (cmpd (strip a) (strip b) = 0 ∧ dv 0 a = dv 0 b)) := by
  have h1 := fits_dv a ha na fa
  have h2 := fits_dv b hb nb fb
  have := cmpd_spec (strip a) (strip b) (strip_alld a ha) (strip_alld b hb) (strip_ne a na) (strip_ne b nb) (strip_bare a) (strip_bare b)
  rw [h1.1, h2.1]
  exact ⟨h1.2, h2.2, this⟩
end Go.Proofs.Qxb6600179a.Order
