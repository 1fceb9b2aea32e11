import Derived.Test.Qxb6601594aCac
namespace Go.Proofs.Qxb6601594a.Mem
open Go.ChangeShapes Go.WideShapes Go.ChangeAt Go.RowKit Go.Maps
open Go.Proofs.Qxb6601594a.Plain Go.Proofs.Qxb6601594a.Map
set_option linter.unusedVariables false
set_option linter.unusedSimpArgs false
section
variable {N n : Nat} {ms es : Addr} {mb : Nat → Nat} {fk fl : Value → Option Value} {lv : Nat → ByteArray → Option ByteArray} {t : Int} {oc : Nat} {fo : Value → Option Value}

/-- A slice of places: so many. -/
def PLn (v : Value) (m : Nat) : Prop := ∃ (a : Option Addr) (cap : Nat), v = .slice a m cap
theorem PL.len {w : World} {v : Value} {ps : List Nat} (h : PL w N v ps) : PLn v ps.length := by
  obtain ⟨a, cap, e, _⟩ := h
  exact ⟨a, cap, e⟩

set_option maxHeartbeats 1600000 in
/-- Lists whose lengths tell: the one is every role, or both speak of one key. -/
theorem overlapEvery (b a : ByteArray) (k2 : Int) (c d : ByteArray) (W : World) (h : Idx W N n ms es mb fk fl lv t oc fo)
    (hc : c.size ≤ 9223372036854775807) (hd : d.size ≤ 9223372036854775807) :
    Calls Try.prog 21 #[.pointer (some ⟨N + 3, 0, none⟩), .agg #[.int .i64 1, .string a, .string b], .agg #[.int .i64 k2, .string c, .string d]] W fun e w' =>
      e = .returned (.int .i64 (cnt (fun i => onP k2 d (lv i c)) n)) ∧ Below W.heap.size W w' := by
  have hs53 := cells53
  have hs51 := cells51
  have hB : Below W.heap.size W ((W.alloc (.cells #[.int .i64 1, .string a, .string b] 53)).alloc (.cells #[.int .i64 k2, .string c, .string d] 53)) := ((Below.refl _ _).alloc (Nat.le_refl _) _).alloc (by simp) _
  have HC : Hid (Calls Try.prog 24 #[.pointer (some ⟨N + 3, 0, none⟩), .agg #[.int .i64 k2, .string c, .string d]] ((W.alloc (.cells #[.int .i64 1, .string a, .string b] 53)).alloc (.cells #[.int .i64 k2, .string c, .string d] 53)) fun e w' =>
      (∃ x cap, e = .returned (.slice x (cnt (fun i => onP k2 d (lv i c)) n) cap)) ∧ Hid (Below W.heap.size W w')) := by
    refine (places24 k2 c d _ (h.below hB) hc hd).mono ?_
    rintro e w' ⟨⟨v, rfl, x, cap, rfl, _⟩, hb⟩
    exact ⟨⟨x, cap, by rw [pls_length]⟩, hB.trans (hb.mono hB.size)⟩
  clear h hB
  go_enter Try.func21, Try.ntmps21
  go_wp2_with (go_at_call 24; refine HC.out.mono ?_; rintro e w' ⟨⟨x, cap, rfl⟩, hB⟩)
  go_wp2
  go_ret
  exact ⟨rfl, hB.out⟩

set_option maxHeartbeats 1600000 in
/-- The one list is a key's, and the other speaks of that key. -/
theorem overlapKey (b a : ByteArray) (k2 : Int) (d : ByteArray) (W : World) (h : Idx W N n ms es mb fk fl lv t oc fo)
    (ha : a.size ≤ 9223372036854775807) (hd : d.size ≤ 9223372036854775807) :
    Calls Try.prog 21 #[.pointer (some ⟨N + 3, 0, none⟩), .agg #[.int .i64 2, .string a, .string b], .agg #[.int .i64 k2, .string a, .string d]] W fun e w' =>
      e = .returned (.int .i64 (cnt (fun i => onP k2 d (lv i a)) n)) ∧ Below W.heap.size W w' := by
  have hs53 := cells53
  have hs51 := cells51
  have hB : Below W.heap.size W ((W.alloc (.cells #[.int .i64 2, .string a, .string b] 53)).alloc (.cells #[.int .i64 k2, .string a, .string d] 53)) := ((Below.refl _ _).alloc (Nat.le_refl _) _).alloc (by simp) _
  have HC : Hid (Calls Try.prog 24 #[.pointer (some ⟨N + 3, 0, none⟩), .agg #[.int .i64 k2, .string a, .string d]] ((W.alloc (.cells #[.int .i64 2, .string a, .string b] 53)).alloc (.cells #[.int .i64 k2, .string a, .string d] 53)) fun e w' =>
      (∃ x cap, e = .returned (.slice x (cnt (fun i => onP k2 d (lv i a)) n) cap)) ∧ Hid (Below W.heap.size W w')) := by
    refine (places24 k2 a d _ (h.below hB) ha hd).mono ?_
    rintro e w' ⟨⟨v, rfl, x, cap, rfl, _⟩, hb⟩
    exact ⟨⟨x, cap, by rw [pls_length]⟩, hB.trans (hb.mono hB.size)⟩
  clear h hB
  go_enter Try.func21, Try.ntmps21
  go_wp2_with (go_at_call 24; refine HC.out.mono ?_; rintro e w' ⟨⟨x, cap, rfl⟩, hB⟩)
  go_wp2
  go_ret
  exact ⟨rfl, hB.out⟩

set_option maxHeartbeats 1600000 in
/-- The other list is the key's of the one. -/
theorem overlapPairKey (k1 : Int) (b a : ByteArray) (d : ByteArray) (W : World) (h : Idx W N n ms es mb fk fl lv t oc fo)
    (ha : a.size ≤ 9223372036854775807) (hb : b.size ≤ 9223372036854775807) (k11 : k1 ≠ 1) (k12 : k1 ≠ 2) :
    Calls Try.prog 21 #[.pointer (some ⟨N + 3, 0, none⟩), .agg #[.int .i64 k1, .string a, .string b], .agg #[.int .i64 2, .string a, .string d]] W fun e w' =>
      e = .returned (.int .i64 (cnt (fun i => onP k1 b (lv i a)) n)) ∧ Below W.heap.size W w' := by
  have hs53 := cells53
  have hs51 := cells51
  have hB : Below W.heap.size W ((W.alloc (.cells #[.int .i64 k1, .string a, .string b] 53)).alloc (.cells #[.int .i64 2, .string a, .string d] 53)) := ((Below.refl _ _).alloc (Nat.le_refl _) _).alloc (by simp) _
  have HC : Hid (Calls Try.prog 24 #[.pointer (some ⟨N + 3, 0, none⟩), .agg #[.int .i64 k1, .string a, .string b]] ((W.alloc (.cells #[.int .i64 k1, .string a, .string b] 53)).alloc (.cells #[.int .i64 2, .string a, .string d] 53)) fun e w' =>
      (∃ x cap, e = .returned (.slice x (cnt (fun i => onP k1 b (lv i a)) n) cap)) ∧ Hid (Below W.heap.size W w')) := by
    refine (places24 k1 a b _ (h.below hB) ha hb).mono ?_
    rintro e w' ⟨⟨v, rfl, x, cap, rfl, _⟩, hb⟩
    exact ⟨⟨x, cap, by rw [pls_length]⟩, hB.trans (hb.mono hB.size)⟩
  clear h hB
  go_enter Try.func21, Try.ntmps21
  go_wp2_with (go_at_call 24; refine HC.out.mono ?_; rintro e w' ⟨⟨x, cap, rfl⟩, hB⟩)
  go_wp2
  go_ret
  exact ⟨rfl, hB.out⟩

set_option maxHeartbeats 1600000 in
/-- The two lists are of one pair. -/
theorem overlapPair (k1 : Int) (b a : ByteArray) (k2 : Int) (W : World) (h : Idx W N n ms es mb fk fl lv t oc fo)
    (ha : a.size ≤ 9223372036854775807) (hb : b.size ≤ 9223372036854775807) (k11 : k1 ≠ 1) (k12 : k1 ≠ 2) (k22 : k2 ≠ 2) :
    Calls Try.prog 21 #[.pointer (some ⟨N + 3, 0, none⟩), .agg #[.int .i64 k1, .string a, .string b], .agg #[.int .i64 k2, .string a, .string b]] W fun e w' =>
      e = .returned (.int .i64 (cnt (fun i => onP k1 b (lv i a)) n)) ∧ Below W.heap.size W w' := by
  have hs53 := cells53
  have hs51 := cells51
  have hB : Below W.heap.size W ((W.alloc (.cells #[.int .i64 k1, .string a, .string b] 53)).alloc (.cells #[.int .i64 k2, .string a, .string b] 53)) := ((Below.refl _ _).alloc (Nat.le_refl _) _).alloc (by simp) _
  have HC : Hid (Calls Try.prog 24 #[.pointer (some ⟨N + 3, 0, none⟩), .agg #[.int .i64 k1, .string a, .string b]] ((W.alloc (.cells #[.int .i64 k1, .string a, .string b] 53)).alloc (.cells #[.int .i64 k2, .string a, .string b] 53)) fun e w' =>
      (∃ x cap, e = .returned (.slice x (cnt (fun i => onP k1 b (lv i a)) n) cap)) ∧ Hid (Below W.heap.size W w')) := by
    refine (places24 k1 a b _ (h.below hB) ha hb).mono ?_
    rintro e w' ⟨⟨v, rfl, x, cap, rfl, _⟩, hb⟩
    exact ⟨⟨x, cap, by rw [pls_length]⟩, hB.trans (hb.mono hB.size)⟩
  clear h hB
  go_enter Try.func21, Try.ntmps21
  go_wp2_with (go_at_call 24; refine HC.out.mono ?_; rintro e w' ⟨⟨x, cap, rfl⟩, hB⟩)
  go_wp2
  go_ret
  exact ⟨rfl, hB.out⟩

set_option maxHeartbeats 1600000 in
/-- The two lists are of one key and two values. -/
theorem overlapApart (k1 : Int) (b a : ByteArray) (k2 : Int) (d : ByteArray) (W : World) (hne : d ≠ b) (k11 : k1 ≠ 1) (k12 : k1 ≠ 2) (k22 : k2 ≠ 2) :
    Calls Try.prog 21 #[.pointer (some ⟨N + 3, 0, none⟩), .agg #[.int .i64 k1, .string a, .string b], .agg #[.int .i64 k2, .string a, .string d]] W fun e w' =>
      e = .returned (.int .i64 0) ∧ Below W.heap.size W w' := by
  have hs53 := cells53
  have hs51 := cells51
  have hbe : (d.toList == b.toList) = false := by rw [bytes_beq]; exact decide_eq_false hne
  clear hne
  go_enter Try.func21, Try.ntmps21
  go_wp2
  go_ret
  exact ⟨rfl, ((Below.refl _ _).alloc (Nat.le_refl _) _).alloc (by simp) _⟩
end
end Go.Proofs.Qxb6601594a.Mem
