import Derived.Test.Qxb6600179aTable
import Derived.Test.Qxb6600179aOrder
import Derived.Deep.QuietTactic
import Derived.BigQuiet
namespace Go.Proofs.Qxb6600179a.OrderWalk
open Go.ChangeShapes Go.WideShapes Go.ChangeAt Go.RowKit
open Go.Proofs.Qxb6600179a.Plain Go.Proofs.Qxb6600179a.Money Go.Proofs.Qxb6600179a.Table Go.Proofs.Qxb6600179a.Order

set_option maxHeartbeats 400000 in
theorem bytes10 (s t : ByteArray) (hs : s.size ≤ maxLen) (ht : t.size ≤ maxLen) (w : World) (b : Bool) (hb : b = decide (s.size + t.size ≤ 1048576)) :
    Calls Try.prog 10 #[.string s, .string t] w fun e w' => e = .returned (.bool b) ∧ w' = w := by
  unfold maxLen at hs ht
  by_cases h : s.size + t.size ≤ 1048576
  · obtain rfl : b = true := by simp [hb, h]
    clear hb
    go_enter Try.func10, Try.ntmps10
    go_wp2
    go_ret
    exact ⟨rfl, rfl⟩
  · obtain rfl : b = false := by simp [hb, h]
    clear hb
    by_cases h1 : s.size ≤ 1048576
    · by_cases h2 : t.size ≤ 1048576
      · go_enter Try.func10, Try.ntmps10
        go_wp2
        go_ret
        exact ⟨rfl, rfl⟩
      · go_enter Try.func10, Try.ntmps10
        go_wp2
        go_ret
        exact ⟨rfl, rfl⟩
    · go_enter Try.func10, Try.ntmps10
      go_wp2
      go_ret
      exact ⟨rfl, rfl⟩

set_option maxHeartbeats 400000 in
theorem allDigits (s : ByteArray) (hs : s.size ≤ maxLen) (w : World) :
    Calls Try.prog 11 #[.string s] w fun e w' => e = .returned (.bool (isds s)) ∧ w' = w := by
  unfold maxLen at hs
  by_cases hz : s.size = 0
  · have H : Hid (isds s = false) := by unfold isds; rw [decide_eq_false (by omega), Bool.and_false]; exact (show _ = _ from rfl)
    go_enter Try.func11, Try.ntmps11
    go_wp2
    go_ret
    exact ⟨ret_bool H.out.symm, rfl⟩
  have hz' : ((s.size : Int) == 0) = false := by rw [beq_eq_false_iff_ne]; omega
  go_enter Try.func11, Try.ntmps11
  go_wp2
  go_loop [3] (fun i => ∃ k : Nat, k ≤ s.size ∧ i = .int .i64 k ∧ alld (s.data.toList.take k) = true) (fun i => s.size - (intOf i).toNat)
  case atStart => exact ⟨0, Nat.zero_le _, rfl, rfl⟩
  case round =>
    obtain ⟨k, hk, rfl, hall⟩ := hrel
    have HA : Hid (alld (s.data.toList.take k) = true) := hall
    clear hall
    by_cases hlt : k < s.size
    · have hb := (s[k]).toNat_lt
      cases hd : isd (s[k].toNat : Int)
      · have hf : isds s = false := by
          cases hx : isds s
          · rfl
          · have := alld_get s (by unfold isds at hx; simp at hx; exact hx.1) k hlt
            rw [this] at hd; exact absurd hd (by decide)
        have HF : Hid (isds s = false) := hf
        clear hf
        have HD : Hid (isd (s[k].toNat : Int) = false) := hd
        clear hd
        go_wp2_with (go_at_call 16; refine (isDigitByte _ _ false HD.out (by omega) (by omega)).mono ?_; rintro e w' ⟨rfl, rfl⟩)
        go_ret
        exact ⟨ret_bool HF.out.symm, rfl⟩
      · have HS : Hid (alld (s.data.toList.take (k + 1)) = true) := by rw [take_snoc s k hlt, alld_snoc, HA.out, hd]; exact (show _ = _ from rfl)
        have HD : Hid (isd (s[k].toNat : Int) = true) := hd
        clear hd
        go_wp2_with (go_at_call 16; refine (isDigitByte _ _ true HD.out (by omega) (by omega)).mono ?_; rintro e w' ⟨rfl, rfl⟩)
        go_round
        case rel => exact ⟨k + 1, by omega, by go_num, HS.out⟩
        case measure => simp [intOf]; omega
    · have HD : Hid (isds s = true) := by
        have := HA.out
        rw [List.take_of_length_le (by simp; omega)] at this
        unfold isds
        rw [this, decide_eq_true (by omega)]; exact (show _ = _ from rfl)
      clear HA
      go_wp2
      go_ret
      exact ⟨ret_bool HD.out.symm, rfl⟩

theorem extract_drop (s : ByteArray) (k : Nat) : (s.extract k s.size).data.toList = s.data.toList.drop k := by
  have e : s.data.toList.length = s.size := rfl
  rw [ByteArray.data_extract, Array.toList_extract, List.extract_eq_take_drop, List.take_of_length_le (by rw [List.length_drop]; omega)]

set_option maxHeartbeats 400000 in
theorem stripZeros (s : ByteArray) (hs : s.size ≤ maxLen) (hn : 0 < s.size) (w : World) :
    Calls Try.prog 12 #[.string s] w fun e w' => (∃ t : ByteArray, t.size ≤ s.size ∧ t.data.toList = strip s.data.toList ∧ e = .returned (.string t)) ∧ w' = w := by
  unfold maxLen at hs
  go_enter Try.func12, Try.ntmps12
  go_wp2
  go_loop [3] (fun i => ∃ k : Nat, k < s.size ∧ i = .int .i64 k ∧ strip (s.data.toList.drop k) = strip s.data.toList) (fun i => s.size - (intOf i).toNat)
  case atStart => exact ⟨0, hn, rfl, rfl⟩
  case round =>
    obtain ⟨k, hk, rfl, hall⟩ := hrel
    have HA : Hid (strip (s.data.toList.drop k) = strip s.data.toList) := hall
    clear hall
    by_cases hlt : k + 1 < s.size
    · have hlt' : (k : Int) < (s.size : Int) - 1 := by omega
      by_cases hc : (s[k].toNat : Int) = 48
      · have hc' : ((s[k].toNat : Int) == 48) = true := by rw [beq_iff_eq]; exact hc
        have HS : Hid (strip (s.data.toList.drop (k + 1)) = strip s.data.toList) := by
          show _ = _
          rw [← HA.out, drop_cons s k hk, drop_cons s (k + 1) hlt, strip_cons2, if_pos (by omega)]
        clear hc
        go_wp2
        go_round
        case rel => exact ⟨k + 1, by omega, by go_num, HS.out⟩
        case measure => simp [intOf]; omega
      · have hc' : ((s[k].toNat : Int) == 48) = false := by rw [beq_eq_false_iff_ne]; exact hc
        have HS : Hid (s.data.toList.drop k = strip s.data.toList) := by
          show _ = _
          rw [← HA.out, drop_cons s k hk, drop_cons s (k + 1) hlt, strip_cons2, if_neg (by omega)]
        clear hc
        go_wp2
        go_ret
        exact ⟨⟨_, by rw [ByteArray.size_extract]; omega, by rw [extract_drop]; exact HS.out, rfl⟩, rfl⟩
    · have hlt' : ¬ (k : Int) < (s.size : Int) - 1 := by omega
      have HS : Hid (s.data.toList.drop k = strip s.data.toList) := by
          show _ = _
          rw [← HA.out, drop_cons s k hk, List.drop_of_length_le (by simp; omega), strip]
      go_wp2
      go_ret
      exact ⟨⟨_, by rw [ByteArray.size_extract]; omega, by rw [extract_drop]; exact HS.out, rfl⟩, rfl⟩

theorem lexc_drop (s t : ByteArray) (k : Nat) (h : k < s.size) (h' : k < t.size) : lexc (s.data.toList.drop k) (t.data.toList.drop k) =
    if (s[k].toNat : Int) < (t[k].toNat : Int) then -1 else if (t[k].toNat : Int) < (s[k].toNat : Int) then 1 else lexc (s.data.toList.drop (k + 1)) (t.data.toList.drop (k + 1)) := by
  rw [drop_cons s k h, drop_cons t k h', lexc]
  simp only [Int.ofNat_lt]

set_option maxHeartbeats 400000 in
theorem compare (s t : ByteArray) (_hs : s.size ≤ maxLen) (ht : t.size ≤ maxLen) (w : World) :
    Calls Try.prog 14 #[.string s, .string t] w fun e w' => e = .returned (.int .i64 (cmpd s.data.toList t.data.toList)) ∧ ∃ n, w' = w.drewN n := by
  unfold maxLen at ht
  have es : s.data.toList.length = s.size := rfl
  have et : t.data.toList.length = t.size := rfl
  by_cases hne : s.size = t.size
  case neg =>
    have hb : ((s.size : Int) != (t.size : Int)) = true := by rw [bne_iff_ne]; omega
    by_cases hlt : s.size < t.size
    · have H : Hid (cmpd s.data.toList t.data.toList = -1) := by show _ = _; unfold cmpd; rw [if_pos (by omega)]
      clear es et
      go_enter Try.func14, Try.ntmps14
      go_wp2
      go_ret
      exact ⟨ret_int H.out.symm, 0, rfl⟩
    · have H : Hid (cmpd s.data.toList t.data.toList = 1) := by show _ = _; unfold cmpd; rw [if_neg (by omega), if_pos (by omega)]
      clear es et
      go_enter Try.func14, Try.ntmps14
      go_wp2
      go_ret
      exact ⟨ret_int H.out.symm, 0, rfl⟩
  have H : Hid (cmpd s.data.toList t.data.toList = lexc s.data.toList t.data.toList) := by show _ = _; unfold cmpd; rw [if_neg (by omega), if_neg (by omega)]
  clear es et
  have hb : ((s.size : Int) != (t.size : Int)) = false := by rw [bne_eq_false_iff_eq]; omega
  have HE : Hid (s.size = t.size) := hne
  have hle : s.size ≤ t.size := by omega
  clear hne
  go_enter Try.func14, Try.ntmps14
  go_wp2
  go_loopw [5] (fun i wr => ∃ k n : Nat, k ≤ s.size ∧ i = .int .i64 k ∧ lexc (s.data.toList.drop k) (t.data.toList.drop k) = lexc s.data.toList t.data.toList ∧ wr = w.drewN n) (fun i _ => s.size - (intOf i).toNat)
  case atStart => exact ⟨0, 0, Nat.zero_le _, rfl, rfl, rfl⟩
  case round =>
    obtain ⟨k, n, hk, rfl, hl, rfl⟩ := hrel
    have HA : Hid (lexc (s.data.toList.drop k) (t.data.toList.drop k) = lexc s.data.toList t.data.toList) := hl
    clear hl
    by_cases hlt : k < s.size
    · have hlt' : k < t.size := by omega
      have HD : Hid (lexc s.data.toList t.data.toList = if (s[k].toNat : Int) < (t[k].toNat : Int) then -1 else if (t[k].toNat : Int) < (s[k].toNat : Int) then 1 else lexc (s.data.toList.drop (k + 1)) (t.data.toList.drop (k + 1))) := by
        show _ = _
        rw [← HA.out]; exact lexc_drop s t k hlt hlt'
      clear HA
      by_cases c1 : (s[k].toNat : Int) < (t[k].toNat : Int)
      · go_wp2
        go_quiet (fail)
        go_wp2
        go_ret
        exact ⟨ret_int (by rw [H.out, HD.out, if_pos (by omega)]), _, by simp only [World.drewN_drewN]; rfl⟩
      · by_cases c2 : (t[k].toNat : Int) < (s[k].toNat : Int)
        · go_wp2
          go_quiet (fail)
          go_wp2
          go_quiet (fail)
          go_wp2
          go_ret
          exact ⟨ret_int (by rw [H.out, HD.out, if_neg (by omega), if_pos (by omega)]), _, by simp only [World.drewN_drewN]; rfl⟩
        · go_wp2
          go_quiet (fail)
          go_wp2
          go_quiet (fail)
          go_wp2
          go_roundw
          case rel => exact ⟨k + 1, _, by omega, by go_num, by rw [HD.out, if_neg (by omega), if_neg (by omega)], rfl⟩
          case measure => simp [intOf]; omega
    · go_wp2
      go_ret
      refine ⟨ret_int ?_, _, rfl⟩
      rw [H.out, ← HA.out, List.drop_of_length_le (by simp; omega)]
      rfl

set_option maxHeartbeats 400000 in
theorem fits (s : ByteArray) (hs : s.size ≤ maxLen) (w : World) (b : Bool) (hb : b = decide (cmpd s.data.toList maxText ≤ 0)) :
    Calls Try.prog 13 #[.string s] w fun e w' => e = .returned (.bool b) ∧ ∃ n, w' = w.drewN n := by
  have HB : Hid (b = decide (cmpd s.data.toList maxText ≤ 0)) := hb
  clear hb
  go_enter Try.func13, Try.ntmps13
  go_wp2_with (go_at_call 14; refine (compare _ _ hs (by decide) _).mono ?_; rintro e w' ⟨rfl, n, rfl⟩)
  go_ret
  refine ⟨ret_bool ?_, _, rfl⟩
  rw [HB.out]
  rfl

theorem grown_drewN {W w : World} (h : Grown W w) (n : Nat) : Grown W (w.drewN n) := h

theorem isds_spec (s : ByteArray) (h : isds s = true) : alld s.data.toList = true ∧ s.data.toList ≠ [] ∧ 0 < s.size := by
  unfold isds at h
  simp at h
  refine ⟨h.1, ?_, h.2⟩
  have e : s.data.toList.length = s.size := rfl
  intro hn
  rw [hn] at e
  simp at e
  omega

set_option maxHeartbeats 1600000 in
theorem walk (a0 : ByteArray) (a1 : ByteArray) (w0 : a0.size ≤ maxLen) (w1 : a1.size ≤ maxLen) (w : World) :
    Calls Try.prog 4 #[.string a0, .string a1] w fun e w' => e = .returned (.bool true) ∧ Grown w w' := by
  have w0' := w0
  have w1' := w1
  unfold maxLen at w0' w1'
  by_cases hbig : a0.size + a1.size ≤ 1048576
  case neg =>
    go_enter Try.func4, Try.ntmps4
    go_wp2_with (go_at_call 10; refine (bytes10 _ _ w0 w1 _ false (by simp [hbig])).mono ?_; rintro e w' ⟨rfl, rfl⟩)
    go_ret
    exact ⟨rfl, Grown.refl _⟩
  have h1 : ¬ (1048576 : Int) < a0.size := by omega
  have h2 : ¬ (1048576 : Int) < a1.size := by omega
  have h3 : ¬ (1048576 : Int) < (a0.size : Int) + a1.size := by omega
  have hb10 : ∀ w, Calls Try.prog 10 #[.string a0, .string a1] w fun e w' => e = .returned (.bool true) ∧ w' = w := fun w => bytes10 _ _ w0 w1 _ true (by simp [hbig])
  have H10 : Hid (∀ w, Calls Try.prog 10 #[.string a0, .string a1] w fun e w' => e = .returned (.bool true) ∧ w' = w) := hb10
  clear hb10 hbig
  cases ha : isds a0
  · have H11 : Hid (∀ w, Calls Try.prog 11 #[.string a0] w fun e w' => e = .returned (.bool false) ∧ w' = w) := fun w => by rw [← ha]; exact allDigits a0 w0 w
    clear ha
    go_enter Try.func4, Try.ntmps4
    go_wp2_with (first | (go_at_call 10; refine (H10.out _).mono ?_; rintro e w' ⟨rfl, rfl⟩) | (go_at_call 11; refine (H11.out _).mono ?_; rintro e w' ⟨rfl, rfl⟩))
    go_ret
    exact ⟨rfl, Grown.refl _⟩
  have H11 : Hid (∀ w, Calls Try.prog 11 #[.string a0] w fun e w' => e = .returned (.bool true) ∧ w' = w) := fun w => by rw [← ha]; exact allDigits a0 w0 w
  obtain ⟨sa1, sa2, sa3⟩ := isds_spec a0 ha
  have SA1 : Hid (alld a0.data.toList = true) := sa1
  have SA2 : Hid (a0.data.toList ≠ []) := sa2
  clear ha sa1 sa2
  cases hb : isds a1
  · have H12 : Hid (∀ w, Calls Try.prog 11 #[.string a1] w fun e w' => e = .returned (.bool false) ∧ w' = w) := fun w => by rw [← hb]; exact allDigits a1 w1 w
    clear hb
    go_enter Try.func4, Try.ntmps4
    go_wp2_with (go_at_call 10; refine (H10.out _).mono ?_; rintro e w' ⟨rfl, rfl⟩)
    refine (H11.out _).mono ?_
    rintro e w' ⟨rfl, rfl⟩
    go_wp2_with fail
    refine (H12.out _).mono ?_
    rintro e w' ⟨rfl, rfl⟩
    go_wp2_with fail
    go_ret
    exact ⟨rfl, Grown.refl _⟩
  have H12 : Hid (∀ w, Calls Try.prog 11 #[.string a1] w fun e w' => e = .returned (.bool true) ∧ w' = w) := fun w => by rw [← hb]; exact allDigits a1 w1 w
  obtain ⟨sb1, sb2, sb3⟩ := isds_spec a1 hb
  have SB1 : Hid (alld a1.data.toList = true) := sb1
  have SB2 : Hid (a1.data.toList ≠ []) := sb2
  clear hb sb1 sb2
  go_enter Try.func4, Try.ntmps4
  go_wp2_with (go_at_call 10; refine (H10.out _).mono ?_; rintro e w' ⟨rfl, rfl⟩)
  refine (H11.out _).mono ?_
  rintro e w' ⟨rfl, rfl⟩
  go_wp2_with fail
  refine (H12.out _).mono ?_
  rintro e w' ⟨rfl, rfl⟩
  go_wp2_with fail
  refine (stripZeros a0 w0 sa3 _).mono ?_
  rintro e w' ⟨⟨ta, hta, hta', rfl⟩, rfl⟩
  have HTA : Hid (ta.data.toList = strip a0.data.toList) := hta'
  clear hta'
  go_wp2_with fail
  refine (stripZeros a1 w1 sb3 _).mono ?_
  rintro e w' ⟨⟨tb, htb, htb', rfl⟩, rfl⟩
  have HTB : Hid (tb.data.toList = strip a1.data.toList) := htb'
  clear htb'
  have ba : ta.size ≤ maxLen := by unfold maxLen; omega
  have bb : tb.size ≤ maxLen := by unfold maxLen; omega
  by_cases fa : cmpd ta.data.toList maxText ≤ 0
  case neg =>
    have F : Hid (∀ w, Calls Try.prog 13 #[.string ta] w fun e w' => e = .returned (.bool false) ∧ ∃ n, w' = w.drewN n) := fun w => fits ta ba w false (by simp [fa])
    clear fa
    go_wp2_with fail
    refine (F.out _).mono ?_
    rintro e w' ⟨rfl, n1, rfl⟩
    go_wp2_with fail
    go_ret
    exact ⟨rfl, Grown.refl _⟩
  have F : Hid (∀ w, Calls Try.prog 13 #[.string ta] w fun e w' => e = .returned (.bool true) ∧ ∃ n, w' = w.drewN n) := fun w => fits ta ba w true (by simp [fa])
  have FA : Hid (cmpd ta.data.toList maxText ≤ 0) := fa
  clear fa
  by_cases fb : cmpd tb.data.toList maxText ≤ 0
  case neg =>
    have F' : Hid (∀ w, Calls Try.prog 13 #[.string tb] w fun e w' => e = .returned (.bool false) ∧ ∃ n, w' = w.drewN n) := fun w => fits tb bb w false (by simp [fb])
    clear fb
    go_wp2_with fail
    refine (F.out _).mono ?_
    rintro e w' ⟨rfl, n1, rfl⟩
    go_wp2_with fail
    refine (F'.out _).mono ?_
    rintro e w' ⟨rfl, n2, rfl⟩
    go_wp2_with fail
    go_ret
    exact ⟨rfl, Grown.refl _⟩
  have F' : Hid (∀ w, Calls Try.prog 13 #[.string tb] w fun e w' => e = .returned (.bool true) ∧ ∃ n, w' = w.drewN n) := fun w => fits tb bb w true (by simp [fb])
  have FB : Hid (cmpd tb.data.toList maxText ≤ 0) := fb
  clear fb
  have LAW := orders a0.data.toList a1.data.toList SA1.out SB1.out SA2.out SB2.out (by rw [← HTA.out]; exact FA.out) (by rw [← HTB.out]; exact FB.out)
  rw [← HTA.out, ← HTB.out] at LAW
  obtain ⟨p1, p2, p3⟩ := LAW
  have P : Hid _ := p3
  clear p3
  go_wp2_with fail
  refine (F.out _).mono ?_
  rintro e w' ⟨rfl, n1, rfl⟩
  go_wp2_with fail
  refine (F'.out _).mono ?_
  rintro e w' ⟨rfl, n2, rfl⟩
  go_wp2_with fail
  refine (zzdigits _ _ w0 _).mono ?_
  rintro e w' ⟨rfl, rfl⟩
  go_wp2_with fail
  refine (zzdigits _ _ w1 _).mono ?_
  rintro e w' ⟨rfl, rfl⟩
  have q1 : ¬ dv 0 a0.data.toList < 0 := by omega
  have q2 : ¬ dv 0 a1.data.toList < 0 := by omega
  go_wp2_with fail
  refine (compare _ _ ba bb _).mono ?_
  rintro e w' ⟨rfl, n3, rfl⟩
  rcases P.out with ⟨e1, e2⟩ | ⟨e1, e2⟩ | ⟨e1, e2⟩
  · rw [e1]
    clear e1 P
    go_wp2
    go_ret
    exact ⟨ret_bool (by simp), Grown.refl _⟩
  · rw [e1]
    clear e1 P
    go_wp2
    go_ret
    exact ⟨ret_bool (by simp), Grown.refl _⟩
  · rw [e1]
    have E2 : Hid _ := e2
    clear e1 P e2
    go_wp2
    go_ret
    exact ⟨ret_bool (by rw [E2.out]; simp), Grown.refl _⟩
end Go.Proofs.Qxb6600179a.OrderWalk
