import Derived.Test.Qxb6601594aOvr
import Derived.Test.Qxb6601594aBoth
import Derived.Test.Qxb6601594aBytes
import Derived.Test.Qxb6601594aBld
namespace Go.Proofs.Qxb6601594a.Mem
open Go.ChangeShapes Go.WideShapes Go.ChangeAt Go.RowKit Go.Maps
open Go.Proofs.Qxb6601594a.Plain Go.Proofs.Qxb6601594a.Map
set_option linter.unusedVariables false
set_option linter.unusedSimpArgs false

set_option maxRecDepth 20000 in
set_option maxHeartbeats 3200000 in
theorem law3 (a : Option Addr) (n cap : Nat) (R : Nat → Option Addr) (L C : Nat → Nat) (K V : Nat → Nat → ByteArray) (tests k1 k2 : Int) (s1 s2 s3 s4 : ByteArray) (W : World) (h : LabIn W a n R L C K V) (hn : n ≤ 9223372036854775807)
    (hk1 : (Lit.int .i64 k1).wf = true) (hk2 : (Lit.int .i64 k2).wf = true) (z1 : s1.size ≤ 9223372036854775807) (z2 : s2.size ≤ 9223372036854775807) (z3 : s3.size ≤ 9223372036854775807) (z4 : s4.size ≤ 9223372036854775807) :
    Calls Try.prog 3 #[.slice a n cap, .int .i64 tests, .int .i64 k1, .string s1, .string s2, .int .i64 k2, .string s3, .string s4] W fun e w' => e = .returned (.bool true) ∧ Below W.heap.size W w' := by
  have inst : DecidableEq Value := fun a b => Classical.propDecidable (a = b)
  have H6 : Hid (Calls Try.prog 6 #[.slice a n cap, .int .i64 tests, .int .i64 k1, .string s1, .string s2, .int .i64 k2, .string s3, .string s4] W fun e w' => SomeBool e ∧ w' = W) := bytes6 a n cap R L C K V tests k1 k2 s1 s2 s3 s4 W h hn z1 z2 z3 z4
  have H7 : Hid (Calls Try.prog 7 #[.slice a n cap, .string s1, .string s2, .string s3, .string s4] W fun e w' => FitPost n L e ∧ w' = W) := fit7 a n cap R L C K V s1 s2 s3 s4 W h hn z1 z2 z3 z4
  have HL : Hid (LabIn W a n R L C K V) := h
  clear h
  go_enter Try.func3, Try.ntmps3
  go_wp2_with fail
  refine H6.out.mono ?_
  rintro e w' ⟨⟨b, rfl⟩, rfl⟩
  clear H6
  cases b
  · go_wp2_with fail
    go_ret
    exact ⟨rfl, Below.refl _ _⟩
  go_wp2_with fail
  refine H7.out.mono ?_
  rintro e w'' ⟨⟨b, rfl, hfit⟩, rfl⟩
  clear H7
  cases b
  · go_wp2_with fail
    go_ret
    exact ⟨rfl, Below.refl _ _⟩
  obtain ⟨hn1, hsum⟩ := hfit rfl
  have HS : Hid (32 * sumL L n ≤ 1048576) := hsum
  clear hfit hsum
  by_cases t0 : tests < 0
  · go_wp2_with fail
    go_ret
    exact ⟨rfl, Below.refl _ _⟩
  by_cases t1 : 1073741824 < tests
  · go_wp2_with fail
    go_ret
    exact ⟨rfl, Below.refl _ _⟩
  by_cases k2x : k2 = 2 ∨ k2 = 3
  case neg =>
    have k22 : k2 ≠ 2 := fun e => k2x (.inl e)
    have k23 : k2 ≠ 3 := fun e => k2x (.inr e)
    have e2 : (k2 != 2) = true := by simpa using k22
    have e3 : (k2 != 3) = true := by simpa using k23
    clear k2x
    go_wp2_with fail
    go_ret
    exact ⟨rfl, Below.refl _ _⟩
  case pos =>
    have HK2 : Hid (k2 = 2 ∨ k2 = 3) := k2x
    clear k2x
    obtain ⟨cb, HCB⟩ : ∃ x, Hid (cnt (fun i => onP k1 s2 (lastV (K i) (V i) (L i) s1) && onP k2 s4 (lastV (K i) (V i) (L i) s3)) n = x) := ⟨_, (show _ = _ from rfl)⟩
    obtain ⟨c1, HC1⟩ : ∃ x, Hid (cnt (fun i => onP k1 s2 (lastV (K i) (V i) (L i) s1)) n = x) := ⟨_, (show _ = _ from rfl)⟩
    obtain ⟨c2, HC2⟩ : ∃ x, Hid (cnt (fun i => onP k2 s4 (lastV (K i) (V i) (L i) s3)) n = x) := ⟨_, (show _ = _ from rfl)⟩
    have b0 : cb ≤ n := by rw [← HCB.out]; exact cnt_le _ _
    have b1 : c1 ≤ n := by rw [← HC1.out]; exact cnt_le _ _
    have b2 : c2 ≤ n := by rw [← HC2.out]; exact cnt_le _ _
    have H10 : Hid (∀ w, Below w''.heap.size w'' w → Calls Try.prog 10 #[.slice a n cap, .int .i64 k1, .string s1, .string s2, .int .i64 k2, .string s3, .string s4] w fun e w' => e = .returned (.int .i64 (cb : Int)) ∧ w' = w) := by
      intro w hb
      have := countBoth a n cap R L C K V k1 s1 s2 k2 s3 s4 w (HL.out.below hb (Nat.le_refl _)) (by omega)
      rw [HCB.out] at this
      exact this
    have H11 : Hid (∀ w, Below w''.heap.size w'' w → Calls Try.prog 11 #[.slice a n cap, .int .i64 k1, .string s1, .string s2] w fun e w' => e = .returned (.int .i64 (c1 : Int)) ∧ w' = w) := by
      intro w hb
      have := countOn a n cap R L C K V k1 s1 s2 w (HL.out.below hb (Nat.le_refl _)) (by omega)
      rw [HC1.out] at this
      exact this
    have H12 : Hid (∀ w, Below w''.heap.size w'' w → Calls Try.prog 11 #[.slice a n cap, .int .i64 k2, .string s3, .string s4] w fun e w' => e = .returned (.int .i64 (c2 : Int)) ∧ w' = w) := by
      intro w hb
      have := countOn a n cap R L C K V k2 s3 s4 w (HL.out.below hb (Nat.le_refl _)) (by omega)
      rw [HC2.out] at this
      exact this
    go_upto_region 7 with fail
    go_cut [52] (fun b wx => b = .bool false ∧ wx = w'')
    case first =>
      clear H10 H11 H12 HCB HC1 HC2
      rcases HK2.out with e | e
      · subst e
        go_wp2_with fail
        go_meet
        case rel => exact ⟨rfl, rfl⟩
      · subst e
        go_wp2_with fail
        go_meet
        case rel => exact ⟨rfl, rfl⟩
    case rest =>
      obtain ⟨rfl, rfl⟩ := hcut
      go_wp2_with fail
      refine (build8 a n cap R L C K V tests wc HL.out hn1 HS.out).mono ?_
      rintro e w1 ⟨N, ms, es, mb, fk, fl, rfl, hN, hI1, hB1⟩
      have H9 : Hid (Calls Try.prog 9 #[.pointer (some ⟨N + 3, 0, none⟩), .int .i64 k1, .string s1, .string s2, .int .i64 k2, .string s3, .string s4] w1 fun e w' => e = .returned (.int .i64 (cb : Int)) ∧ Hid (Below wc.heap.size wc w') ∧
          Hid (Idx w' N n ms es mb fk fl (fun j => lastV (K j) (V j) (L j)) tests 0 (fun _ => none) ∨ Idx w' N n ms es mb fk fl (fun j => lastV (K j) (V j) (L j)) (tests + (min c1 c2 : Nat)) 1 (upd (fun _ => none) (.agg #[.int .i64 k1, .string s1, .string s2, .int .i64 k2, .string s3, .string s4]) (.int .i64 (cb : Int))))) := by
        refine (overlap9 k1 s1 s2 k2 s3 s4 w1 hI1 hk1 hk2 z1 z2 z3 z4 HK2.out (by omega) (by omega) (by omega)).mono ?_
        rintro e w2 ⟨he, hb, hor⟩
        rw [← HCB.out, ← HC1.out, ← HC2.out]
        exact ⟨he, hB1.trans (hb.mono hN), hor⟩
      clear hI1 hB1
      go_wp2_with fail
      refine H9.out.mono ?_
      rintro e w2 ⟨rfl, HB2, HOR⟩
      clear H9
      go_wp2_with fail
      refine (H10.out _ HB2.out).mono ?_
      rintro e w3 ⟨rfl, rfl⟩
      clear H10
      go_wp2_with fail
      refine (H11.out _ HB2.out).mono ?_
      rintro e w4 ⟨rfl, rfl⟩
      clear H11
      go_wp2_with fail
      refine (H12.out _ HB2.out).mono ?_
      rintro e w5 ⟨rfl, rfl⟩
      clear H12
      obtain ⟨mn, HMN⟩ : ∃ x, Hid (min c1 c2 = x) := ⟨_, (show _ = _ from rfl)⟩
      rw [HMN.out] at HOR
      go_upto_if 87 with fail
      go_cut [20] (fun s20 wx => s20 = .int .i64 (mn : Int) ∧ wx = w5)
      case first =>
        by_cases hlt : c2 < c1
        · have e : mn = c2 := by rw [← HMN.out]; omega
          go_wp2_with fail
          go_meet
          case rel => exact ⟨by rw [e], rfl⟩
        · have e : mn = c1 := by rw [← HMN.out]; omega
          go_wp2_with fail
          go_meet
          case rel => exact ⟨by rw [e], rfl⟩
      case rest =>
        obtain ⟨rfl, rfl⟩ := hcut
        have b3 : mn ≤ n := by rw [← HMN.out]; omega
        rcases HOR.out with hI | hI
        · have H12 : Hid (Calls Try.prog 12 #[.pointer (some ⟨N + 3, 0, none⟩), .int .i64 k1, .string s1, .string s2, .int .i64 k2, .string s3, .string s4] wc fun e w' => e = .returned (.tuple #[.int .i64 0, .bool false]) ∧ Hid (Below wc.heap.size wc w')) := cached12 k1 s1 s2 k2 s3 s4 none wc hI hk1 hk2 z1 z2 z3 z4 rfl
          go_wp2_with fail
          refine H12.out.mono ?_
          rintro e w6 ⟨rfl, HB6⟩
          have hI6 := hI.below HB6.out
          have H13 : Hid (Calls Try.prog 13 #[.pointer (some ⟨N + 3, 0, none⟩)] w6 fun e w' => e = .returned (.int .i64 0) ∧ w' = w6) := len13 w6 hI6
          have H14 : Hid (Calls Try.prog 14 #[.pointer (some ⟨N + 3, 0, none⟩)] w6 fun e w' => e = .returned (.int .i64 tests) ∧ w' = w6) := tests14 w6 hI6
          have HB7 : Hid (Below _ _ w6) := HB2.out.trans (HB6.out.mono HB2.out.size)
          clear hI hI6 HOR H12
          go_wp2_with fail
          refine H13.out.mono ?_
          rintro e w7 ⟨rfl, rfl⟩
          go_wp2_with fail
          refine H14.out.mono ?_
          rintro e w8 ⟨rfl, rfl⟩
          go_wp2_with fail
          go_ret
          exact ⟨ret_bool (by simp), HB7.out⟩
        · have H12 : Hid (Calls Try.prog 12 #[.pointer (some ⟨N + 3, 0, none⟩), .int .i64 k1, .string s1, .string s2, .int .i64 k2, .string s3, .string s4] wc fun e w' => e = .returned (.tuple #[.int .i64 (cb : Int), .bool true]) ∧ Hid (Below wc.heap.size wc w')) := cached12 k1 s1 s2 k2 s3 s4 (some (cb : Int)) wc hI hk1 hk2 z1 z2 z3 z4 (upd_same _ _ _)
          go_wp2_with fail
          refine H12.out.mono ?_
          rintro e w6 ⟨rfl, HB6⟩
          have hI6 := hI.below HB6.out
          have H13 : Hid (Calls Try.prog 13 #[.pointer (some ⟨N + 3, 0, none⟩)] w6 fun e w' => e = .returned (.int .i64 1) ∧ w' = w6) := len13 w6 hI6
          have H14 : Hid (Calls Try.prog 14 #[.pointer (some ⟨N + 3, 0, none⟩)] w6 fun e w' => e = .returned (.int .i64 (tests + mn)) ∧ w' = w6) := tests14 w6 hI6
          have HB7 : Hid (Below _ _ w6) := HB2.out.trans (HB6.out.mono HB2.out.size)
          clear hI hI6 HOR H12
          go_wp2_with fail
          refine H13.out.mono ?_
          rintro e w7 ⟨rfl, rfl⟩
          go_wp2_with fail
          refine H14.out.mono ?_
          rintro e w8 ⟨rfl, rfl⟩
          go_wp2_with fail
          go_ret
          exact ⟨ret_bool (by simp), HB7.out⟩
end Go.Proofs.Qxb6601594a.Mem
