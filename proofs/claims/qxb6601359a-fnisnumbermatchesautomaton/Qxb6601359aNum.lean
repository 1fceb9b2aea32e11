import Derived.Test.Qxb6601359aRows
import Derived.Test.Qxb6601359aNumPlain
import Derived.WalkKit
import Derived.ProofKit
import Derived.OpenShut
import Derived.ShutString
import Derived.Deep.DeepCutAuto
namespace Go.Proofs.Qxb6601359a.Num
open Go.ChangeShapes Go.WideShapes Go.ChangeAt Go.RowKit
open Go.Proofs.Qxb6601359a.NumPlain
set_option linter.unusedVariables false
set_option linter.unusedSimpArgs false

theorem ret_int {k : IntKind} {a b : Int} (h : a = b) : Ending.returned (.int k a) = .returned (.int k b) := by rw [h]
theorem ret_bool {a b : Bool} (h : a = b) : Ending.returned (.bool a) = .returned (.bool b) := by rw [h]
theorem val_int {k : IntKind} {a b : Int} (h : a = b) : Value.int k a = .int k b := by rw [h]
theorem take_snoc (s : ByteArray) (k : Nat) (h : k < s.size) : s.data.toList.take (k + 1) = s.data.toList.take k ++ [s[k]] := by
  rw [List.take_succ_eq_append_getElem (by simpa using h)]; rfl
theorem drop_cons (s : ByteArray) (k : Nat) (h : k < s.size) : s.data.toList.drop k = s[k] :: s.data.toList.drop (k + 1) := by
  rw [List.drop_eq_getElem_cons (by simpa using h)]; rfl

set_option maxHeartbeats 400000 in
theorem bytes10 (s : ByteArray) (hs : s.size ≤ maxLen) (w : World) (b : Bool) (hb : b = decide (s.size ≤ 1048576)) :
    Calls Try.prog 10 #[.string s] w fun e w' => e = .returned (.bool b) ∧ w' = w := by
  unfold maxLen at hs
  by_cases h : s.size ≤ 1048576
  · obtain rfl : b = true := by simp [hb, h]
    clear hb
    go_enter Try.func10, Try.ntmps10
    go_wp2
    go_ret
    exact ⟨rfl, rfl⟩
  · obtain rfl : b = false := by simp [hb, h]
    clear hb
    go_enter Try.func10, Try.ntmps10
    go_wp2
    go_ret
    exact ⟨rfl, rfl⟩

set_option maxHeartbeats 1000000 in
theorem numState (s c : Int) (w : World) (h0 : 0 ≤ c) (h : c < 256) (s0 : 0 ≤ s) (s1 : s ≤ 9) :
    Calls Try.prog 25 #[.int .i64 s, .int .u8 c] w fun e w' => e = .returned (.int .i64 (st s c)) ∧ w' = w := by
  go_enter Try.func25, Try.ntmps25
  go_wp2
  all_goals
    go_ret
    refine ⟨ret_int ?_, rfl⟩
    simp only [beq_iff_eq, beq_eq_false_iff_ne, decide_eq_true_eq] at *
    first
      | (exfalso; omega)
      | (simp only [st, isd, isx, isg, decide_eq_true_eq]
         repeat (first | rw [if_pos (by omega)] | rw [if_neg (by omega)])
         try simp)

theorem stl_snoc (s : Int) (l : List UInt8) (c : UInt8) : stl s (l ++ [c]) = st (stl s l) c.toNat := by simp [stl]
theorem stl_range (l : List UInt8) (s : Int) (h0 : 0 ≤ s) (h1 : s ≤ 9) : 0 ≤ stl s l ∧ stl s l ≤ 9 := by
  induction l generalizing s with
  | nil => exact ⟨h0, h1⟩
  | cons c t ih => rw [stl_cons]; exact ih _ (st_range _ _).1 (st_range _ _).2

theorem acc_true (q : Int) (h : q = 2 ∨ q = 3 ∨ q = 5 ∨ q = 8) : true = acc q := by simp [acc, h]
theorem acc_eq (q : Int) : (q == 2 || q == 3 || q == 5 || q == 8) = acc q := by
  rw [Bool.eq_iff_iff]; simp [acc, or_assoc]

set_option maxHeartbeats 400000 in
theorem byAutomaton (s : ByteArray) (hs : s.size ≤ maxLen) (w : World) :
    Calls Try.prog 12 #[.string s] w fun e w' => e = .returned (.bool (acc (stl 0 s.data.toList))) ∧ w' = w := by
  unfold maxLen at hs
  go_enter Try.func12, Try.ntmps12
  go_wp2
  go_loop [3, 4] (fun q i => ∃ k : Nat, k ≤ s.size ∧ i = .int .i64 k ∧ q = .int .i64 (stl 0 (s.data.toList.take k))) (fun _ i => s.size - (intOf i).toNat)
  case atStart => exact ⟨0, Nat.zero_le _, rfl, rfl⟩
  case round =>
    obtain ⟨k, hk, rfl, rfl⟩ := hrel
    obtain ⟨r0, r1⟩ := stl_range (s.data.toList.take k) 0 (by omega) (by omega)
    by_cases hlt : k < s.size
    · have hb := (s[k]).toNat_lt
      have HS : Hid (stl 0 (s.data.toList.take (k + 1)) = st (stl 0 (s.data.toList.take k)) s[k].toNat) := by show _ = _; rw [take_snoc s k hlt, stl_snoc]
      go_wp2_with (go_at_call 25; refine (numState _ _ _ (by omega) (by omega) (by omega) (by omega)).mono ?_; rintro e w' ⟨rfl, rfl⟩)
      go_round
      case rel => exact ⟨k + 1, by omega, by go_num, by rw [HS.out]⟩
      case measure => simp [intOf]; omega
    · have hT : s.data.toList.take k = s.data.toList := by rw [List.take_of_length_le (by simp; omega)]
      rw [hT] at r0 r1 ⊢
      clear hT
      generalize hq : stl 0 s.data.toList = q at r0 r1 ⊢
      have HQ : Hid (stl 0 s.data.toList = q) := hq
      clear hq
      go_wp2
      all_goals
        go_ret
        refine ⟨ret_bool ?_, rfl⟩
        rw [HQ.out]
        first | exact acc_true _ (by omega) | exact acc_eq _

end Go.Proofs.Qxb6601359a.Num
