import Derived.Test.Qxb6601594aMem
namespace Go.Proofs.Qxb6601594a.Mem
open Go.ChangeShapes Go.WideShapes Go.ChangeAt Go.RowKit Go.Maps
open Go.Proofs.Qxb6601594a.Plain Go.Proofs.Qxb6601594a.Map
set_option linter.unusedVariables false
set_option linter.unusedSimpArgs false

theorem addOk (t n : Int) (W : World) (h0 : 0 ≤ t) (h1 : 0 ≤ n) (h2 : t + n ≤ 1048576) :
    Calls Try.prog 17 #[.int .i64 t, .int .i64 n] W fun e w' => e = .returned (.tuple #[.int .i64 (t + n), .bool true]) ∧ w' = W := by
  have hk : ¬ 1048576 - t < n := by omega
  go_enter Try.func17, Try.ntmps17
  go_wp2
  go_ret2
  exact ⟨rfl, rfl⟩
theorem addNo (t n : Int) (W : World) (h0 : 0 ≤ t) (h1 : 0 ≤ n) (h2 : 1048576 < t + n) (h3 : t ≤ 1048576) (h4 : n ≤ 9223372036854775807) :
    Calls Try.prog 17 #[.int .i64 t, .int .i64 n] W fun e w' => e = .returned (.tuple #[.int .i64 t, .bool false]) ∧ w' = W := by
  have hk : 1048576 - t < n := by omega
  go_enter Try.func17, Try.ntmps17
  go_wp2
  go_ret2
  exact ⟨rfl, rfl⟩

/-- The sum of the first n. -/
def sumL (L : Nat → Nat) : Nat → Nat
  | 0 => 0
  | n + 1 => sumL L n + L n

def FitPost (n : Nat) (L : Nat → Nat) (e : Ending) : Prop := ∃ b, e = .returned (.bool b) ∧ (b = true → n ≤ 43690 ∧ 32 * sumL L n ≤ 1048576)
theorem fitNo (n : Nat) (L : Nat → Nat) : FitPost n L (.returned (.bool false)) := ⟨false, rfl, fun h => by cases h⟩

set_option maxHeartbeats 3200000 in
theorem fit7 (a : Option Addr) (n cap : Nat) (R : Nat → Option Addr) (L C : Nat → Nat) (K V : Nat → Nat → ByteArray) (s1 s2 s3 s4 : ByteArray) (W : World) (h : LabIn W a n R L C K V) (hn : n ≤ 9223372036854775807)
    (z1 : s1.size ≤ 9223372036854775807) (z2 : s2.size ≤ 9223372036854775807) (z3 : s3.size ≤ 9223372036854775807) (z4 : s4.size ≤ 9223372036854775807) :
    Calls Try.prog 7 #[.slice a n cap, .string s1, .string s2, .string s3, .string s4] W fun e w' => FitPost n L e ∧ w' = W := by
  by_cases hb0 : n ≤ 43690
  case neg =>
    have hb1 : (43690 : Int) < n := by omega
    clear h
    go_enter Try.func7, Try.ntmps7
    go_wp2
    go_ret
    exact ⟨fitNo _ _, rfl⟩
  have hb1 : ¬ (43690 : Int) < n := by omega
  have hs36 := cells36
  by_cases t1 : 24 * (n : Int) + s1.size ≤ 1048576
  case neg =>
    clear h
    go_enter Try.func7, Try.ntmps7
    go_wp2_with (go_at_call 17; refine (addNo _ _ _ (by omega) (by omega) (by omega) (by omega) (by omega)).mono ?_; rintro e w' ⟨rfl, rfl⟩)
    go_wp2
    go_ret
    exact ⟨fitNo _ _, rfl⟩
  by_cases t2 : 24 * (n : Int) + s1.size + s2.size ≤ 1048576
  case neg =>
    clear h
    go_enter Try.func7, Try.ntmps7
    go_wp2_with (go_at_call 17; (first | (refine (addOk _ _ _ (by omega) (by omega) (by omega)).mono ?_) | (refine (addNo _ _ _ (by omega) (by omega) (by omega) (by omega) (by omega)).mono ?_)); rintro e w' ⟨rfl, rfl⟩)
    go_wp2
    go_ret
    exact ⟨fitNo _ _, rfl⟩
  by_cases t3 : 24 * (n : Int) + s1.size + s2.size + s3.size ≤ 1048576
  case neg =>
    clear h
    go_enter Try.func7, Try.ntmps7
    go_wp2_with (go_at_call 17; (first | (refine (addOk _ _ _ (by omega) (by omega) (by omega)).mono ?_) | (refine (addNo _ _ _ (by omega) (by omega) (by omega) (by omega) (by omega)).mono ?_)); rintro e w' ⟨rfl, rfl⟩)
    go_wp2
    go_ret
    exact ⟨fitNo _ _, rfl⟩
  by_cases t4 : 24 * (n : Int) + s1.size + s2.size + s3.size + s4.size ≤ 1048576
  case neg =>
    clear h
    go_enter Try.func7, Try.ntmps7
    go_wp2_with (go_at_call 17; (first | (refine (addOk _ _ _ (by omega) (by omega) (by omega)).mono ?_) | (refine (addNo _ _ _ (by omega) (by omega) (by omega) (by omega) (by omega)).mono ?_)); rintro e w' ⟨rfl, rfl⟩)
    go_wp2
    go_ret
    exact ⟨fitNo _ _, rfl⟩
  go_enter Try.func7, Try.ntmps7
  go_wp2_with (go_at_call 17; (first | (refine (addOk _ _ _ (by omega) (by omega) (by omega)).mono ?_) | (refine (addNo _ _ _ (by omega) (by omega) (by omega) (by omega) (by omega)).mono ?_)); rintro e w' ⟨rfl, rfl⟩)
  go_wp2
  go_loop [11, 12, 13, 14, 15] (fun s _ i _ _ => ∃ (k : Nat) (q : Int), k ≤ n ∧ i = .int .i64 k ∧ 0 ≤ q ∧ q ≤ 1048576 ∧ s = .int .i64 q ∧ Hid (((32 * sumL L k : Nat) : Int) ≤ q)) (fun _ _ i _ _ => n - (intOf i).toNat)
  case atStart => exact ⟨0, _, Nat.zero_le _, rfl, by omega, t4, rfl, (show ((32 * sumL L 0 : Nat) : Int) ≤ _ from by simp [sumL]; omega)⟩
  case round =>
    obtain ⟨k, q, hk, rfl, hq0, hq1, rfl, HQ⟩ := hrel
    by_cases hlt : k < n
    · obtain ⟨x, rfl, e0⟩ := h.cs k hlt
      have hL := h.sz k hlt
      by_cases u1 : (32768 : Int) < L k
      · go_wp2
        go_ret
        exact ⟨fitNo _ _, rfl⟩
      by_cases u2 : q + 32 * (L k : Int) ≤ 1048576
      case neg =>
        go_wp2_with (go_at_call 17; (first | (refine (addOk _ _ _ (by omega) (by omega) (by omega)).mono ?_) | (refine (addNo _ _ _ (by omega) (by omega) (by omega) (by omega) (by omega)).mono ?_)); rintro e w' ⟨rfl, rfl⟩)
        go_wp2
        go_ret
        exact ⟨fitNo _ _, rfl⟩
      have HQ1 : Hid (((32 * sumL L (k + 1) : Nat) : Int) ≤ q + 32 * (L k : Int)) := by
        have := HQ.out
        show _ ≤ _
        simp only [sumL]
        omega
      go_wp2_with (go_at_call 17; (first | (refine (addOk _ _ _ (by omega) (by omega) (by omega)).mono ?_) | (refine (addNo _ _ _ (by omega) (by omega) (by omega) (by omega) (by omega)).mono ?_)); rintro e w' ⟨rfl, rfl⟩)
      go_wp2
      go_loop [11, 12, 15] (fun s _ i => ∃ (j : Nat) (p : Int), j ≤ L k ∧ i = .int .i64 j ∧ q + 32 * (L k : Int) ≤ p ∧ p ≤ 1048576 ∧ s = .int .i64 p) (fun _ _ i => L k - (intOf i).toNat)
      case atStart => exact ⟨0, _, Nat.zero_le _, rfl, Int.le_refl _, u2, rfl⟩
      case round =>
        obtain ⟨j, p, hj, rfl, hp0, hp1, rfl⟩ := hrel
        by_cases hjl : j < L k
        · obtain ⟨y, ey, f0, f1⟩ := (h.role k hlt).cs j hjl
          obtain ⟨y0, y1⟩ := (h.role k hlt).sz j hjl
          rw [ey] at *
          by_cases v1 : p + (K k j).size ≤ 1048576
          case neg =>
            go_wp2_with (go_at_call 17; (first | (refine (addOk _ _ _ (by omega) (by omega) (by omega)).mono ?_) | (refine (addNo _ _ _ (by omega) (by omega) (by omega) (by omega) (by omega)).mono ?_)); rintro e w' ⟨rfl, rfl⟩)
            go_wp2
            go_ret
            exact ⟨fitNo _ _, rfl⟩
          by_cases v2 : p + (K k j).size + (V k j).size ≤ 1048576
          case neg =>
            go_wp2_with (go_at_call 17; (first | (refine (addOk _ _ _ (by omega) (by omega) (by omega)).mono ?_) | (refine (addNo _ _ _ (by omega) (by omega) (by omega) (by omega) (by omega)).mono ?_)); rintro e w' ⟨rfl, rfl⟩)
            go_wp2
            go_ret
            exact ⟨fitNo _ _, rfl⟩
          go_wp2_with (go_at_call 17; (first | (refine (addOk _ _ _ (by omega) (by omega) (by omega)).mono ?_) | (refine (addNo _ _ _ (by omega) (by omega) (by omega) (by omega) (by omega)).mono ?_)); rintro e w' ⟨rfl, rfl⟩)
          go_wp2
          go_round
          case rel => exact ⟨j + 1, _, by omega, by go_num, by omega, v2, rfl⟩
          case measure => simp [intOf]; omega
        · go_wp2
          go_round
          case rel => exact ⟨k + 1, p, by omega, by go_num, by omega, hp1, rfl, (show ((32 * sumL L (k + 1) : Nat) : Int) ≤ p from Int.le_trans HQ1.out hp0)⟩
          case measure => simp [intOf]; omega
    · obtain rfl : k = n := by omega
      have HQ2 : Hid (32 * sumL L k ≤ 1048576) := by
        have := HQ.out
        show _ ≤ _
        omega
      go_wp2
      go_ret
      exact ⟨⟨true, rfl, fun _ => ⟨hb0, HQ2.out⟩⟩, rfl⟩
end Go.Proofs.Qxb6601594a.Mem
