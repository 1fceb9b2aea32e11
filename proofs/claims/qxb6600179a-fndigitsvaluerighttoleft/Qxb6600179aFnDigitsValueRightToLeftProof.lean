/-
  THE SHELL OF A PROOF OF 'Rows.FnDigitsValueRightToLeftSaid' ('example.com/drawdown/drawdown/zzlaws_internal_money_b1.FnDigitsValueRightToLeft'), WRITTEN BY PROGRAM (proof-skeleton.mjs) off the guide's own print for that function.
  The walk is filled in by an AI agent; the rest is the guide's template at this function's number and types.
-/
import Derived.Test.Qxb6600179aMoney
import Derived.WalkKit
import Derived.ProofKit
import Derived.OpenShut
import Derived.ShutString
namespace Go.Proofs.Qxb6600179a.fnDigitsValueRightToLeft
open Go.ChangeShapes Go.WideShapes Go.ChangeAt Go.RowKit
open Go.Proofs.Qxb6600179a.Plain Go.Proofs.Qxb6600179a.Money
open Go.ChangeMaps (open_string shut_string)
set_option linter.unusedVariables false      -- a walk need not use every 'w<i>' (that an integer argument fits its kind)

theorem own : ownKnob Try.prog.godebug = none := by kernel_rfl

/-! ### STEP 1: THE WALK: the Go text returns true. 'Grown w w'': the world has at most new blocks (Derived/RowKit3.lean). Part the cases AHEAD of 'go_enter' where a test parts the walk; take each callee by a contract of your own. -/
set_option maxHeartbeats 800000 in
theorem walk (a0 : Int) (a1 : ByteArray) (w0 : (Lit.int .i64 a0).wf = true) (w1 : a1.size ≤ maxLen) (w : World) :
    Calls Try.prog 3 #[.int .i64 a0, .string a1] w fun e w' => e = .returned (.bool true) ∧ Grown w w' := by
  have w1' := w1
  unfold maxLen at w1'
  have h0 : -9223372036854775808 ≤ a0 ∧ a0 ≤ 9223372036854775807 := by exact bounds_i64 w0
  by_cases hbig : a1.size ≤ 1048576
  case neg =>
    go_enter Try.func3, Try.ntmps3
    go_wp2_with (go_at_call 7; refine (bytes7 _ _ w1 _ false (by simp [hbig])).mono ?_; rintro e w' ⟨rfl, rfl⟩)
    go_ret
    exact ⟨rfl, Grown.refl _⟩
  have hn : ¬ 1048576 < a1.size := by omega
  go_enter Try.func3, Try.ntmps3
  go_wp2_with (go_at_call 7; refine (bytes7 _ _ w1 _ true (by simp [hbig])).mono ?_; rintro e w' ⟨rfl, rfl⟩)
  go_loop [5] (fun i => ∃ k : Nat, k ≤ a1.size ∧ i = .int .i64 k ∧ alld (a1.data.toList.take k) = true) (fun i => a1.size - (intOf i).toNat)
  case atStart => exact ⟨0, Nat.zero_le _, rfl, rfl⟩
  case round =>
    obtain ⟨k, hk, rfl, hall⟩ := hrel
    have HA : Hid (alld (a1.data.toList.take k) = true) := hall
    clear hall
    by_cases hlt : k < a1.size
    · have hb := (a1[k]).toNat_lt
      cases hd : isd (a1[k].toNat : Int)
      · have hv : digv (a1[k].toNat : Int) < 0 := by rw [digv_neg _ hd]; omega
        clear hd
        go_wp2_with (go_at_call 8; refine (digitOf _ _ (by omega) (by omega)).mono ?_; rintro e w' ⟨rfl, rfl⟩)
        go_ret
        exact ⟨rfl, Grown.refl _⟩
      · have hv : ¬ digv (a1[k].toNat : Int) < 0 := by have := digv_yes _ hd; omega
        have HS : Hid (alld (a1.data.toList.take (k + 1)) = true) := by rw [take_snoc a1 k hlt, alld_snoc, HA.out, hd]; exact (show _ = _ from rfl)
        clear hd
        go_wp2_with (go_at_call 8; refine (digitOf _ _ (by omega) (by omega)).mono ?_; rintro e w' ⟨rfl, rfl⟩)
        go_round
        case rel => exact ⟨k + 1, by omega, by go_num, HS.out⟩
        case measure => simp [intOf]; omega
    · have HD : Hid (alld a1.data.toList = true) := by
        have := HA.out
        rw [List.take_of_length_le (by simp; omega)] at this
        exact this
      clear HA
      go_wp2
      go_loop [6, 7, 8] (fun acc p i => ∃ k : Nat, k ≤ a1.size ∧ i = .int .i64 ((k : Int) - 1) ∧ acc = .int .i64 (wrap64 (val 0 (a1.data.toList.drop k))) ∧ p = .int .i64 (wrap64 (10 ^ (a1.size - k)))) (fun _ _ i => (intOf i + 1).toNat)
      case atStart => 
        refine ⟨a1.size, Nat.le_refl _, rfl, val_int ?_, val_int ?_⟩
        · rw [List.drop_of_length_le (by simp), val_nil]; exact wrap64_zero
        · rw [Nat.sub_self]; exact wrap64_one
      case round =>
        obtain ⟨k, hk, rfl, rfl, rfl⟩ := hrel
        cases k with
        | zero =>
          go_wp2_with (go_at_call 9; refine (zzdigits _ _ w1 _).mono ?_; rintro e w' ⟨rfl, rfl⟩)
          go_ret
          exact ⟨congrArg (fun b => Ending.returned (.bool b)) (law_rtl a0 a1 h0.1 h0.2), Grown.refl _⟩
        | succ k =>
          have hlt : k < a1.size := hk
          have hb := (a1[k]).toNat_lt
          go_wp2_with (go_at_call 8; refine (digitOf _ _ (by omega) (by omega)).mono ?_; rintro e w' ⟨rfl, rfl⟩)
          go_round
          case rel => 
            refine ⟨k, by omega, by go_num, val_int ?_, val_int ?_⟩
            · exact acc_round a1 k hlt (alld_get a1 HD.out k hlt)
            · exact pow_round a1 k hlt
          case measure => simp [intOf]

/-! ### THE ROW's STEP: WRITTEN OUT: LEAVE IT -/
set_option maxRecDepth 100000 in
theorem lifted (os : Os) (started : os.Started) (H : Type) (enc : TypeId × Value → H) :
    ReturnsInHanded {} Try.checked os 3 .any (Rows.fnDigitsValueRightToLeftSpec.pre6 enc Try.prog Try.f3 Rows.fnDigitsValueRightToLeftRow.domain false) (Rows.fnDigitsValueRightToLeftSpec.post enc Try.prog Try.f3 false true false false) := by
  refine returnsInHanded_of_change (C := Try.checked) own started (by kernel_rfl) Try.func3
    (ChangeSpec.witness6 (enc := enc) (C := Try.checked) false ⟨#[], #[.int .i64 0, .string ByteArray.empty], []⟩ 8 (by kernel_rfl) (by kernel_rfl) (by kernel_rfl) (by kernel_rfl)) ?_
  intro W base args ds gs before hval0 hW hcnd _
  have hval : ∀ (j : Nat) t v, Try.f3.params[j]? = some t → args[j]? = some v → Value.okWide Try.prog W .any base t v := hval0
  have hW' := hW
  obtain ⟨p, q, hA0, hV, rfl, hfz, hnd⟩ := hW
  have hA : DataW.TrodAll enc Try.prog W 0 (fun _ => true) true Try.f3.params.toList args.toList ds p := hA0
  rw [Try.params3] at hA hval
  obtain ⟨v0, vs0, d0, ds0, p0, q0, hargs, rfl, rfl, h0, r0⟩ := trodAll_cons hA
  obtain ⟨v1, vs1, d1, ds1, p1, q1, rfl, rfl, rfl, h1, r1⟩ := trodAll_cons r0
  obtain ⟨rfl, rfl, rfl⟩ := trodAll_nil r1
  obtain rfl : args = #[v0, v1] := by cases args; simp_all
  obtain ⟨rfl, rfl⟩ := trodVars_none hV
  obtain ⟨a0, rfl, rfl, rfl, w0⟩ := open_int Try.underlying2 (hval 0 2 v0 rfl rfl) h0
  obtain ⟨a1, rfl, rfl, rfl, w1⟩ := open_string Try.underlying9 (hval 1 9 v1 rfl rfl) h1
  clear hA0 hval0
  simp only [List.append_nil] at hW'
  refine (walk a0 a1 w0 w1 W).mono fun e W' ⟨he, hg⟩ => ?_
  subst he
  exact ⟨_, rfl, post_of_same (pa := []) (pv := []) hW' (fun _ _ _ => (trodAll_cons_mk (shut_bool Try.underlying4 _) trodAll_mk0)) (fun sp _ => (trodAll_cons_mk (shut_int Try.underlying2 w0) (trodAll_cons_mk (shut_string Try.underlying9 w1) trodAll_mk0))) (fun _ _ => rfl) rfl
    (hg.frame _) hg.2.1 (ok_one (by kernel_rfl) rfl (okWide_bool_mk Try.underlying4 _))⟩

theorem over : Rows.fnDigitsValueRightToLeftRow.holds Try.pinned (OpenSpec.ofChange Rows.fnDigitsValueRightToLeftSpec) :=
  OpenClaim.holds_of_wide 3 Try.f3 rfl rfl rfl rfl rfl rfl rfl ⟨rfl, rfl, rfl, rfl, rfl⟩ rfl rfl rfl rfl rfl (by kernel_rfl) Try.func3 (by kernel_rfl)
    (of_decide_eq_true (by kernel_rfl)) (by unfold Func.isWrapper; first | (rw [if_pos (by decide +kernel)]; kernel_rfl) | (rw [if_neg (by decide +kernel)]; exact ⟨rfl, rfl⟩))
    (fun os started H enc _ => lifted os started H enc)

/-- ████ THE STATEMENT ████ -/
theorem proved : Rows.FnDigitsValueRightToLeftSaid :=
  over
#print axioms proved
end Go.Proofs.Qxb6600179a.fnDigitsValueRightToLeft
