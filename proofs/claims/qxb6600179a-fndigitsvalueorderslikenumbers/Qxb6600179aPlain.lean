import Derived.RowKit
/-! Plain mathematics of the digits: no Go in sight. -/
namespace Go.Proofs.Qxb6600179a.Plain
open Go.RowKit

theorem wrap64_add_left (a b : Int) : wrap64 (wrap64 a + b) = wrap64 (a + b) := by unfold wrap64; omega
theorem wrap64_add_right (a b : Int) : wrap64 (a + wrap64 b) = wrap64 (a + b) := by unfold wrap64; omega
theorem wrap64_spec (a : Int) : ∃ k : Int, wrap64 a = a + 18446744073709551616 * k :=
  ⟨-((a + 9223372036854775808) / 18446744073709551616), by unfold wrap64; omega⟩
theorem wrap64_shift (a k : Int) : wrap64 (a + 18446744073709551616 * k) = wrap64 a := by unfold wrap64; omega
theorem wrap64_mul_left (a b : Int) : wrap64 (wrap64 a * b) = wrap64 (a * b) := by
  obtain ⟨k, hk⟩ := wrap64_spec a
  rw [hk, Int.add_mul, Int.mul_assoc, wrap64_shift]
theorem wrap64_mul_right (a b : Int) : wrap64 (a * wrap64 b) = wrap64 (a * b) := by
  rw [Int.mul_comm, wrap64_mul_left, Int.mul_comm]
theorem wrap64_id (a : Int) (h0 : -9223372036854775808 ≤ a) (h1 : a ≤ 9223372036854775807) : wrap64 a = a := by unfold wrap64; omega
theorem wrap64_lo (a : Int) : -9223372036854775808 ≤ wrap64 a := by unfold wrap64; omega
theorem wrap64_hi (a : Int) : wrap64 a ≤ 9223372036854775807 := by unfold wrap64; omega
theorem wrap64_wrap64 (a : Int) : wrap64 (wrap64 a) = wrap64 a := by unfold wrap64; omega

/-- The byte's value as 'digitsValue' takes it: one less by 48, in a byte. -/
def sub48 (c : UInt8) : Int := ((c.toNat : Int) - 48) % 256
/-- One round of 'digitsValue'. -/
def dstep (n : Int) (c : UInt8) : Int := wrap64 (10 * n + sub48 c)
/-- 'digitsValue'. -/
def dv (n : Int) (l : List UInt8) : Int := l.foldl dstep n
/-- The exact number. -/
def val (n : Int) (l : List UInt8) : Int := l.foldl (fun a c => 10 * a + sub48 c) n
/-- The table 'zzDigitOf'. -/
def digv (c : Int) : Int := if 48 ≤ c ∧ c ≤ 57 then c - 48 else -1
/-- The table 'zzIsDigitByte'. -/
def isd (c : Int) : Bool := decide (48 ≤ c ∧ c ≤ 57)

theorem dv_snoc (n : Int) (l : List UInt8) (c : UInt8) : dv n (l ++ [c]) = dstep (dv n l) c := by simp [dv]
theorem val_snoc (n : Int) (l : List UInt8) (c : UInt8) : val n (l ++ [c]) = 10 * val n l + sub48 c := by simp [val]
theorem dv_cons (n : Int) (l : List UInt8) (c : UInt8) : dv n (c :: l) = dv (dstep n c) l := rfl
theorem val_cons (n : Int) (l : List UInt8) (c : UInt8) : val n (c :: l) = val (10 * n + sub48 c) l := rfl
theorem dv_nil (n : Int) : dv n [] = n := rfl
theorem val_nil (n : Int) : val n [] = n := rfl
theorem dv_val (l : List UInt8) (n : Int) : wrap64 (dv n l) = wrap64 (val n l) := by
  induction l generalizing n with
  | nil => rfl
  | cons c l ih =>
    rw [dv_cons, ih, val_cons]
    have h : ∀ (l : List UInt8) (a b : Int), wrap64 a = wrap64 b → wrap64 (val a l) = wrap64 (val b l) := by
      intro l
      induction l with
      | nil => intro a b h; exact h
      | cons c l ih =>
        intro a b h
        rw [val_cons, val_cons]
        apply ih
        rw [← wrap64_add_left, ← wrap64_mul_right, h, wrap64_mul_right, wrap64_add_left]
    apply h
    rw [dstep, wrap64_wrap64]
theorem val_shift (l : List UInt8) (n : Int) : val n l = n * 10 ^ l.length + val 0 l := by
  induction l generalizing n with
  | nil => simp [val_nil]
  | cons c l ih =>
    rw [val_cons, val_cons, ih, ih (10 * 0 + sub48 c)]
    simp only [List.length_cons, Int.pow_succ]
    rw [Int.add_mul, Int.mul_zero, Int.zero_add, Int.mul_comm 10 n, Int.mul_assoc, Int.mul_comm 10]
    omega
theorem sub48_digit (c : UInt8) (h : isd c.toNat = true) : sub48 c = (c.toNat : Int) - 48 ∧ sub48 c = digv c.toNat := by
  simp [isd] at h
  unfold sub48 digv
  rw [if_pos (by omega)]
  omega
theorem dv_range (l : List UInt8) (n : Int) (h0 : -9223372036854775808 ≤ n) (h1 : n ≤ 9223372036854775807) :
    -9223372036854775808 ≤ dv n l ∧ dv n l ≤ 9223372036854775807 := by
  induction l generalizing n with
  | nil => exact ⟨h0, h1⟩
  | cons c l ih => rw [dv_cons]; exact ih _ (wrap64_lo _) (wrap64_hi _)

theorem take_snoc (s : ByteArray) (k : Nat) (h : k < s.size) : s.data.toList.take (k + 1) = s.data.toList.take k ++ [s[k]] := by
  rw [List.take_succ_eq_append_getElem (by simpa using h)]; rfl
theorem drop_cons (s : ByteArray) (k : Nat) (h : k < s.size) : s.data.toList.drop k = s[k] :: s.data.toList.drop (k + 1) := by
  rw [List.drop_eq_getElem_cons (by simpa using h)]; rfl

/-- The law of the first statement: left to right and right to left are one. -/
theorem right_to_left (n : Int) (l : List UInt8) (h0 : -9223372036854775808 ≤ n) (h1 : n ≤ 9223372036854775807) :
    dv n l = wrap64 (n * wrap64 (10 ^ l.length) + wrap64 (val 0 l)) := by
  have hr := dv_range l n h0 h1
  rw [← wrap64_id (dv n l) hr.1 hr.2, dv_val, val_shift, wrap64_add_right, ← wrap64_add_left, ← wrap64_mul_right, wrap64_add_left]

/-- Every byte is a digit. -/
def alld (l : List UInt8) : Bool := l.all fun c => isd c.toNat
theorem alld_snoc (l : List UInt8) (c : UInt8) : alld (l ++ [c]) = (alld l && isd c.toNat) := by simp [alld]
theorem alld_get (s : ByteArray) (h : alld s.data.toList = true) (k : Nat) (hk : k < s.size) : isd (s[k].toNat) = true := by
  unfold alld at h
  rw [List.all_eq_true] at h
  exact h _ (by show s.data[k] ∈ _; simp)
theorem digv_neg (c : Int) (h : isd c = false) : digv c = -1 := by simp [isd] at h; unfold digv; rw [if_neg (by omega)]
theorem digv_yes (c : Int) (h : isd c = true) : digv c = c - 48 ∧ 48 ≤ c ∧ c ≤ 57 := by simp [isd] at h; unfold digv; rw [if_pos h]; omega
theorem val_drop (s : ByteArray) (k : Nat) (hk : k < s.size) (h : isd (s[k].toNat) = true) :
    val 0 (s.data.toList.drop k) = digv s[k].toNat * 10 ^ (s.size - (k + 1)) + val 0 (s.data.toList.drop (k + 1)) := by
  rw [drop_cons s k hk, val_cons, val_shift, ← (sub48_digit _ h).2]
  have e : (s.data.toList.drop (k + 1)).length = s.size - (k + 1) := by rw [List.length_drop]; rfl
  rw [e, Int.mul_zero, Int.zero_add]
theorem pow_drop (s : ByteArray) (k : Nat) (hk : k < s.size) : (10 : Int) ^ (s.size - k) = 10 ^ (s.size - (k + 1)) * 10 := by
  rw [← Int.pow_succ]; congr 1; omega

theorem wrap64_zero : (0 : Int) = wrap64 0 := by unfold wrap64; omega
theorem wrap64_one : (1 : Int) = wrap64 (10 ^ 0) := by unfold wrap64; omega
theorem acc_round (s : ByteArray) (k : Nat) (hk : k < s.size) (h : isd (s[k].toNat) = true) :
    wrap64 (wrap64 (val 0 (s.data.toList.drop (k + 1))) + wrap64 (digv s[k].toNat * wrap64 (10 ^ (s.size - (k + 1))))) = wrap64 (val 0 (s.data.toList.drop k)) := by
  rw [wrap64_mul_right, wrap64_add_right, wrap64_add_left, val_drop s k hk h, Int.add_comm]
theorem pow_round (s : ByteArray) (k : Nat) (hk : k < s.size) : wrap64 (wrap64 (10 ^ (s.size - (k + 1))) * 10) = wrap64 (10 ^ (s.size - k)) := by
  rw [wrap64_mul_left, pow_drop s k hk]
theorem law_rtl (n : Int) (s : ByteArray) (h0 : -9223372036854775808 ≤ n) (h1 : n ≤ 9223372036854775807) :
    (dv n s.data.toList == wrap64 (wrap64 (n * wrap64 (10 ^ s.size)) + wrap64 (val 0 s.data.toList))) = true := by
  rw [right_to_left n _ h0 h1, wrap64_add_left]
  have e : s.data.toList.length = s.size := rfl
  rw [e, beq_self_eq_true]
end Go.Proofs.Qxb6600179a.Plain
