import Derived.Test.Qxb6601594aMem
namespace Go.Proofs.Qxb6601594a.Mem
open Go.ChangeShapes Go.WideShapes Go.ChangeAt Go.RowKit Go.Maps
open Go.Proofs.Qxb6601594a.Plain Go.Proofs.Qxb6601594a.Map
set_option linter.unusedVariables false
set_option linter.unusedSimpArgs false

def SomeBool (e : Ending) : Prop := ∃ b, e = .returned (.bool b)
theorem someBool (b : Bool) : SomeBool (.returned (.bool b)) := ⟨b, rfl⟩

set_option maxRecDepth 20000 in
set_option maxHeartbeats 3200000 in
theorem bytes6 (a : Option Addr) (n cap : Nat) (R : Nat → Option Addr) (L C : Nat → Nat) (K V : Nat → Nat → ByteArray) (tests k1 k2 : Int) (s1 s2 s3 s4 : ByteArray) (W : World) (h : LabIn W a n R L C K V) (hn : n ≤ 9223372036854775807)
    (z1 : s1.size ≤ 9223372036854775807) (z2 : s2.size ≤ 9223372036854775807) (z3 : s3.size ≤ 9223372036854775807) (z4 : s4.size ≤ 9223372036854775807) :
    Calls Try.prog 6 #[.slice a n cap, .int .i64 tests, .int .i64 k1, .string s1, .string s2, .int .i64 k2, .string s3, .string s4] W fun e w' => SomeBool e ∧ w' = W := by
  by_cases hb0 : n ≤ 1048576
  case neg =>
    have hb1 : (1048576 : Int) < n := by omega
    clear h
    go_enter Try.func6, Try.ntmps6
    go_wp2
    go_ret
    exact ⟨someBool _, rfl⟩
  have hb1 : ¬ (1048576 : Int) < n := by omega
  have hs36 := cells36
  go_enter Try.func6, Try.ntmps6
  go_wp2
  go_loop [17, 18, 19] (fun s i _ => ∃ (k : Nat) (q : Int), k ≤ n ∧ i = .int .i64 k ∧ 0 ≤ q ∧ q ≤ 1048576 ∧ s = .int .i64 q) (fun _ i _ => n - (intOf i).toNat)
  case atStart => exact ⟨0, n, Nat.zero_le _, rfl, by omega, by omega, rfl⟩
  case round =>
    obtain ⟨k, q, hk, rfl, hq0, hq1, rfl⟩ := hrel
    by_cases hlt : k < n
    · obtain ⟨x, rfl, e0⟩ := h.cs k hlt
      have hL := h.sz k hlt
      by_cases u1 : (1048576 : Int) < L k
      · go_wp2
        go_ret
        exact ⟨someBool _, rfl⟩
      by_cases u2 : (1048576 : Int) < q + L k
      · go_wp2
        go_ret
        exact ⟨someBool _, rfl⟩
      go_wp2
      go_loop [17, 19] (fun s i => ∃ (j : Nat) (p : Int), j ≤ L k ∧ i = .int .i64 j ∧ 0 ≤ p ∧ p ≤ 1048576 ∧ s = .int .i64 p) (fun _ i => L k - (intOf i).toNat)
      case atStart => exact ⟨0, _, Nat.zero_le _, rfl, by omega, by omega, rfl⟩
      case round =>
        obtain ⟨j, p, hj, rfl, hp0, hp1, rfl⟩ := hrel
        by_cases hjl : j < L k
        · obtain ⟨y, ey, f0, f1⟩ := (h.role k hlt).cs j hjl
          obtain ⟨y0, y1⟩ := (h.role k hlt).sz j hjl
          rw [ey] at e0
          rw [ey]
          by_cases v1 : (1048576 : Int) < (K k j).size
          · go_wp2
            go_ret
            exact ⟨someBool _, rfl⟩
          by_cases v2 : (1048576 : Int) < p + (K k j).size
          · go_wp2
            go_ret
            exact ⟨someBool _, rfl⟩
          by_cases v3 : (1048576 : Int) < (V k j).size
          · go_wp2
            go_ret
            exact ⟨someBool _, rfl⟩
          by_cases v4 : (1048576 : Int) < p + (K k j).size + (V k j).size
          · go_wp2
            go_ret
            exact ⟨someBool _, rfl⟩
          go_wp2
          go_round
          case rel => exact ⟨j + 1, _, by omega, by go_num, by omega, by omega, rfl⟩
          case measure => simp [intOf]; omega
        · go_wp2
          go_round
          case rel => exact ⟨k + 1, p, by omega, by go_num, hp0, hp1, rfl⟩
          case measure => simp [intOf]; omega
    · obtain rfl : k = n := by omega
      by_cases w1 : (1048576 : Int) < s1.size
      · go_wp2
        go_ret
        exact ⟨someBool _, rfl⟩
      by_cases x1 : (1048576 : Int) < q + s1.size
      · go_wp2
        go_ret
        exact ⟨someBool _, rfl⟩
      by_cases w2 : (1048576 : Int) < s2.size
      · go_wp2
        go_ret
        exact ⟨someBool _, rfl⟩
      by_cases x2 : (1048576 : Int) < q + s1.size + s2.size
      · go_wp2
        go_ret
        exact ⟨someBool _, rfl⟩
      by_cases w3 : (1048576 : Int) < s3.size
      · go_wp2
        go_ret
        exact ⟨someBool _, rfl⟩
      by_cases x3 : (1048576 : Int) < q + s1.size + s2.size + s3.size
      · go_wp2
        go_ret
        exact ⟨someBool _, rfl⟩
      by_cases w4 : (1048576 : Int) < s4.size
      · go_wp2
        go_ret
        exact ⟨someBool _, rfl⟩
      by_cases x4 : (1048576 : Int) < q + s1.size + s2.size + s3.size + s4.size
      · go_wp2
        go_ret
        exact ⟨someBool _, rfl⟩
      go_wp2
      go_ret
      exact ⟨someBool _, rfl⟩

end Go.Proofs.Qxb6601594a.Mem
