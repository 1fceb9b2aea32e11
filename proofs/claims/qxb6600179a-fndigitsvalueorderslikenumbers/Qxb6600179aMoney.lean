import Derived.Test.Qxb6600179aRows
import Derived.Test.Qxb6600179aPlain
import Derived.WalkKit
import Derived.ProofKit
import Derived.OpenShut
import Derived.ShutString
namespace Go.Proofs.Qxb6600179a.Money
open Go.ChangeShapes Go.WideShapes Go.ChangeAt Go.RowKit
open Go.Proofs.Qxb6600179a.Plain

theorem ret_int {k : IntKind} {a b : Int} (h : a = b) : Ending.returned (.int k a) = .returned (.int k b) := by rw [h]
theorem val_int {k : IntKind} {a b : Int} (h : a = b) : Value.int k a = .int k b := by rw [h]

set_option maxHeartbeats 400000 in
theorem digits (n : Int) (s : ByteArray) (hs : s.size ≤ maxLen) (w : World) :
    Calls Try.prog 19 #[.int .i64 n, .string s] w fun e w' => e = .returned (.int .i64 (dv n s.data.toList)) ∧ w' = w := by
  unfold maxLen at hs
  go_enter Try.func19, Try.ntmps19
  go_wp2
  go_loop [0, 8] (fun a i => ∃ k : Nat, k ≤ s.size ∧ i = .int .i64 k ∧ a = .int .i64 (dv n (s.data.toList.take k))) (fun _ i => s.size - (intOf i).toNat)
  case atStart => exact ⟨0, Nat.zero_le _, rfl, rfl⟩
  case round =>
    obtain ⟨k, hk, rfl, rfl⟩ := hrel
    by_cases hlt : k < s.size
    · have HS : Hid (dv n (s.data.toList.take (k + 1)) = dstep (dv n (s.data.toList.take k)) s[k]) := by rw [take_snoc s k hlt, dv_snoc]; exact (show _ = _ from rfl)
      go_wp2
      go_round
      case rel => 
        refine ⟨k + 1, by omega, by go_num, ?_⟩
        rw [HS.out]
        exact val_int (by rw [dstep, sub48, wrap64_add_left])
      case measure => simp [intOf]; omega
    · go_wp2
      go_ret
      exact ⟨ret_int (by rw [List.take_of_length_le (by simp; omega)]), rfl⟩
set_option maxHeartbeats 400000 in
theorem digitOf (c : Int) (w : World) (h0 : 0 ≤ c) (h : c < 256) :
    Calls Try.prog 8 #[.int .u8 c] w fun e w' => e = .returned (.int .i64 (digv c)) ∧ w' = w := by
  go_enter Try.func8, Try.ntmps8
  go_wp2
  all_goals
    go_ret
    exact ⟨ret_int (by simp only [beq_iff_eq, beq_eq_false_iff_ne] at *; unfold digv; split <;> omega), rfl⟩

set_option maxHeartbeats 400000 in
theorem bytes7 (n : Int) (s : ByteArray) (hs : s.size ≤ maxLen) (w : World) (b : Bool) (hb : b = decide (s.size ≤ 1048576)) :
    Calls Try.prog 7 #[.int .i64 n, .string s] w fun e w' => e = .returned (.bool b) ∧ w' = w := by
  unfold maxLen at hs
  by_cases h : s.size ≤ 1048576
  · obtain rfl : b = true := by simp [hb, h]
    clear hb
    go_enter Try.func7, Try.ntmps7
    go_wp2
    go_ret
    exact ⟨rfl, rfl⟩
  · obtain rfl : b = false := by simp [hb, h]
    clear hb
    go_enter Try.func7, Try.ntmps7
    go_wp2
    go_ret
    exact ⟨rfl, rfl⟩
set_option maxHeartbeats 400000 in
theorem zzdigits (n : Int) (s : ByteArray) (hs : s.size ≤ maxLen) (w : World) :
    Calls Try.prog 9 #[.int .i64 n, .string s] w fun e w' => e = .returned (.int .i64 (dv n s.data.toList)) ∧ w' = w := by
  go_enter Try.func9, Try.ntmps9
  go_wp2_with (go_at_call 19; refine (digits _ _ hs _).mono ?_; rintro e w' ⟨rfl, rfl⟩)
  go_ret
  exact ⟨rfl, rfl⟩
end Go.Proofs.Qxb6600179a.Money
