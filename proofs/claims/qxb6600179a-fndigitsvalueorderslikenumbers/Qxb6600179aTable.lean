import Derived.Test.Qxb6600179aMoney
namespace Go.Proofs.Qxb6600179a.Table
open Go.ChangeShapes Go.WideShapes Go.ChangeAt Go.RowKit
open Go.Proofs.Qxb6600179a.Plain Go.Proofs.Qxb6600179a.Money

/-- How many of the bytes are digits. -/
def cnt (l : List UInt8) : Nat := l.countP fun c => isd c.toNat
theorem cnt_snoc (l : List UInt8) (c : UInt8) : cnt (l ++ [c]) = cnt l + if isd c.toNat = true then 1 else 0 := by
  simp [cnt, List.countP_append, List.countP_cons]
theorem cnt_le (l : List UInt8) : cnt l ≤ l.length := List.countP_le_length
theorem cnt_all (l : List UInt8) : cnt l = l.length ↔ alld l = true := by
  unfold cnt alld
  rw [List.countP_eq_length, List.all_eq_true]
/-- What 'isDigits' answers. -/
def isds (s : ByteArray) : Bool := alld s.data.toList && decide (0 < s.size)
theorem law_table (s : ByteArray) (b : Bool) (hb : b = (decide (0 < (cnt s.data.toList : Int)) && ((cnt s.data.toList : Int) == (s.size : Int)))) : (isds s == b) = true := by
  subst hb
  have h := cnt_all s.data.toList
  have e : s.data.toList.length = s.size := rfl
  rw [beq_iff_eq, Bool.eq_iff_iff]
  simp only [isds, Bool.and_eq_true, decide_eq_true_eq, beq_iff_eq]
  rw [e] at h
  constructor
  · rintro ⟨h1, h2⟩; have := h.2 h1; omega
  · rintro ⟨h1, h2⟩; exact ⟨h.1 (by omega), by omega⟩

theorem ret_bool {a b : Bool} (h : a = b) : Ending.returned (.bool a) = .returned (.bool b) := by rw [h]

set_option maxHeartbeats 400000 in
theorem isDigitByte (c : Int) (w : World) (b : Bool) (hb : isd c = b) (h0 : 0 ≤ c) (h : c < 256) :
    Calls Try.prog 16 #[.int .u8 c] w fun e w' => e = .returned (.bool b) ∧ w' = w := by
  have HB : Hid (isd c = b) := hb
  clear hb
  go_enter Try.func16, Try.ntmps16
  go_wp2
  all_goals
    go_ret
    refine ⟨ret_bool ?_, rfl⟩
    have := HB.out
    rw [← this]
    simp only [beq_iff_eq, beq_eq_false_iff_ne] at *
    simp [isd]; omega

set_option maxHeartbeats 400000 in
theorem bytes15 (s : ByteArray) (hs : s.size ≤ maxLen) (w : World) (b : Bool) (hb : b = decide (s.size ≤ 1048576)) :
    Calls Try.prog 15 #[.string s] w fun e w' => e = .returned (.bool b) ∧ w' = w := by
  unfold maxLen at hs
  by_cases h : s.size ≤ 1048576
  · obtain rfl : b = true := by simp [hb, h]
    clear hb
    go_enter Try.func15, Try.ntmps15
    go_wp2
    go_ret
    exact ⟨rfl, rfl⟩
  · obtain rfl : b = false := by simp [hb, h]
    clear hb
    go_enter Try.func15, Try.ntmps15
    go_wp2
    go_ret
    exact ⟨rfl, rfl⟩

set_option maxHeartbeats 400000 in
theorem isDigits (s : ByteArray) (hs : s.size ≤ maxLen) (w : World) :
    Calls Try.prog 20 #[.string s] w fun e w' => e = .returned (.bool (isds s)) ∧ w' = w := by
  unfold maxLen at hs
  go_enter Try.func20, Try.ntmps20
  go_wp2
  go_loop [6] (fun i => ∃ k : Nat, k ≤ s.size ∧ i = .int .i64 k ∧ alld (s.data.toList.take k) = true) (fun i => s.size - (intOf i).toNat)
  case atStart => exact ⟨0, Nat.zero_le _, rfl, rfl⟩
  case round =>
    obtain ⟨k, hk, rfl, hall⟩ := hrel
    have HA : Hid (alld (s.data.toList.take k) = true) := hall
    clear hall
    by_cases hlt : k < s.size
    · have hb := (s[k]).toNat_lt
      cases hd : isd (s[k].toNat : Int)
      · have hf : isds s = false := by
          cases hx : isds s
          · rfl
          · have := alld_get s (by unfold isds at hx; simp at hx; exact hx.1) k hlt
            rw [this] at hd; exact absurd hd (by decide)
        have HF : Hid (isds s = false) := hf
        clear hf
        have hv : (s[k].toNat : Int) < 48 ∨ 57 < (s[k].toNat : Int) := by simp [isd] at hd; omega
        clear hd
        rcases hv with hv | hv
        · go_wp2
          go_ret
          exact ⟨ret_bool HF.out.symm, rfl⟩
        · have hv' : ¬ (s[k].toNat : Int) < 48 := by omega
          go_wp2
          go_ret
          exact ⟨ret_bool HF.out.symm, rfl⟩
      · have hv := (digv_yes _ hd).2
        have HS : Hid (alld (s.data.toList.take (k + 1)) = true) := by rw [take_snoc s k hlt, alld_snoc, HA.out, hd]; exact (show _ = _ from rfl)
        clear hd
        obtain ⟨hv1, hv2⟩ := hv
        have hv3 : ¬ (s[k].toNat : Int) < 48 := by omega
        have hv4 : ¬ 57 < (s[k].toNat : Int) := by omega
        go_wp2
        go_round
        case rel => exact ⟨k + 1, by omega, by go_num, HS.out⟩
        case measure => simp [intOf]; omega
    · have HD : Hid (alld s.data.toList = true) := by
        have := HA.out
        rw [List.take_of_length_le (by simp; omega)] at this
        exact this
      clear HA
      go_wp2
      go_ret
      refine ⟨ret_bool ?_, rfl⟩
      rw [isds, HD.out, ByteArray.toList_eq, Bool.true_and]
      have e : s.data.toList.length = s.size := rfl
      rw [← e]
      cases s.data.toList <;> rfl

set_option maxHeartbeats 400000 in
theorem zzisDigits (s : ByteArray) (hs : s.size ≤ maxLen) (w : World) :
    Calls Try.prog 17 #[.string s] w fun e w' => e = .returned (.bool (isds s)) ∧ w' = w := by
  go_enter Try.func17, Try.ntmps17
  go_wp2_with (go_at_call 20; refine (isDigits _ hs _).mono ?_; rintro e w' ⟨rfl, rfl⟩)
  go_ret
  exact ⟨rfl, rfl⟩

set_option maxHeartbeats 800000 in
theorem walk (a0 : ByteArray) (w0 : a0.size ≤ maxLen) (w : World) :
    Calls Try.prog 5 #[.string a0] w fun e w' => e = .returned (.bool true) ∧ Grown w w' := by
  have w0' := w0
  unfold maxLen at w0'
  by_cases hbig : a0.size ≤ 1048576
  case neg =>
    go_enter Try.func5, Try.ntmps5
    go_wp2_with (go_at_call 15; refine (bytes15 _ w0 _ false (by simp [hbig])).mono ?_; rintro e w' ⟨rfl, rfl⟩)
    go_ret
    exact ⟨rfl, Grown.refl _⟩
  have hn : ¬ 1048576 < a0.size := by omega
  go_enter Try.func5, Try.ntmps5
  go_wp2_with (go_at_call 15; refine (bytes15 _ w0 _ true (by simp [hbig])).mono ?_; rintro e w' ⟨rfl, rfl⟩)
  go_loop [3, 4] (fun n i => ∃ k : Nat, k ≤ a0.size ∧ i = .int .i64 k ∧ n = .int .i64 (cnt (a0.data.toList.take k) : Int)) (fun _ i => a0.size - (intOf i).toNat)
  case atStart => exact ⟨0, Nat.zero_le _, rfl, rfl⟩
  case round =>
    obtain ⟨k, hk, rfl, rfl⟩ := hrel
    by_cases hlt : k < a0.size
    · have hb := (a0[k]).toNat_lt
      have hc := cnt_le (a0.data.toList.take k)
      have hl : (a0.data.toList.take k).length ≤ k := List.length_take_le _ _
      have hc' : cnt (a0.data.toList.take k) ≤ k := by omega
      clear hc hl
      have HS : Hid (cnt (a0.data.toList.take (k + 1)) = cnt (a0.data.toList.take k) + if isd (a0[k].toNat : Int) = true then 1 else 0) := by rw [take_snoc a0 k hlt]; exact cnt_snoc _ _
      cases hd : isd (a0[k].toNat : Int)
      · have HD : Hid (isd (a0[k].toNat : Int) = false) := hd
        clear hd
        go_wp2_with (go_at_call 16; refine (isDigitByte _ _ false HD.out (by omega) (by omega)).mono ?_; rintro e w' ⟨rfl, rfl⟩)
        go_round
        case rel => exact ⟨k + 1, by omega, by go_num, by rw [HS.out, HD.out]; go_num⟩
        case measure => simp [intOf]; omega
      · have HD : Hid (isd (a0[k].toNat : Int) = true) := hd
        clear hd
        go_wp2_with (go_at_call 16; refine (isDigitByte _ _ true HD.out (by omega) (by omega)).mono ?_; rintro e w' ⟨rfl, rfl⟩)
        go_round
        case rel => exact ⟨k + 1, by omega, by go_num, by rw [HS.out, HD.out]; go_num⟩
        case measure => simp [intOf]; omega
    · have hT : a0.data.toList.take k = a0.data.toList := by rw [List.take_of_length_le (by simp; omega)]
      rw [hT]
      clear hT
      by_cases hc : 0 < (cnt a0.data.toList : Int)
      · have H : Hid (∀ b : Bool, b = (decide (0 < (cnt a0.data.toList : Int)) && ((cnt a0.data.toList : Int) == (a0.size : Int))) → (isds a0 == b) = true) := law_table a0
        go_wp2_with (go_at_call 17; refine (zzisDigits _ w0 _).mono ?_; rintro e w' ⟨rfl, rfl⟩)
        go_ret
        exact ⟨ret_bool (H.out _ (by rw [decide_eq_true (by omega), Bool.true_and])), Grown.refl _⟩
      · have H : Hid (∀ b : Bool, b = (decide (0 < (cnt a0.data.toList : Int)) && ((cnt a0.data.toList : Int) == (a0.size : Int))) → (isds a0 == b) = true) := law_table a0
        go_wp2_with (go_at_call 17; refine (zzisDigits _ w0 _).mono ?_; rintro e w' ⟨rfl, rfl⟩)
        go_ret
        exact ⟨ret_bool (by have := H.out false (by simp; omega); simpa using this), Grown.refl _⟩
end Go.Proofs.Qxb6600179a.Table
