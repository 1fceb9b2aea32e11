import Derived.Test.Qxb6601690aFit
import Derived.Test.Qxb6601690aUnn
namespace Go.Proofs.Qxb6601690a.Law
open Go.ChangeShapes Go.WideShapes Go.ChangeAt Go.RowKit
open Go.Proofs.Qxb6601690a.Plain Go.Proofs.Qxb6601690a.Mem Go.Proofs.Qxb6601690a.Tgt Go.Proofs.Qxb6601690a.Fit Go.Proofs.Qxb6601690a.Dis
set_option linter.unusedVariables false
set_option linter.unusedSimpArgs false

theorem bres_any (b : Bool) : BRes True (.returned (.bool b)) := ⟨b, rfl, fun _ => trivial⟩

set_option maxRecDepth 100000 in
set_option maxHeartbeats 3200000 in
theorem fits6 (af : ByteArray) (ar : Option Addr) (an ac : Nat) (ao : Option Addr) (on oc : Nat) (So : Nat → ByteArray) (a : Option Addr) (n cap : Nat) (Pt : Nat → Option Addr) (Id : Nat → ByteArray) (F : Nat → Option Addr) (FL FC : Nat → Nat) (ad : Option Addr) (m cd : Nat) (Dv : Nat → ByteArray) (W : World)
    (haf : af.size ≤ 1048576) (han : an ≤ 1048576) (hon : on ≤ 65536) (hn : n ≤ 4096) (hm : m ≤ 4096)
    (ho : Strs W ao on So) (ht : TP W a n Pt Id F FL FC) (hd : Strs W ad m Dv) (hS : Small on So n Pt Id FL m Dv) :
    Calls Try.prog 6 #[.string af, .slice ar an ac, .slice ao on oc, .slice a n cap, .slice ad m cd] W fun e w' => BRes True e ∧ w' = W := by
  have hs41 := cells41
  have HO : Hid (Strs W ao on So) := ho
  have HD : Hid (Strs W ad m Dv) := hd
  clear ho hd
  by_cases t1 : (1048576 : Int) < (af.size : Int) + an + 16 * on + 48 * n + 16 * m
  · go_enter Try.func6, Try.ntmps6
    go_wp2
    go_ret
    exact ⟨bres_any _, rfl⟩
  go_enter Try.func6, Try.ntmps6
  go_wp2
  go_loop [11, 12] (fun s i => ∃ (k : Nat) (q : Int), k ≤ on ∧ i = .int .i64 k ∧ 0 ≤ q ∧ q ≤ 1048576 ∧ s = .int .i64 q) (fun _ i => on - (intOf i).toNat)
  case atStart => exact ⟨0, _, Nat.zero_le _, rfl, by omega, by omega, rfl⟩
  case round =>
    obtain ⟨k, q, hk, rfl, hq0, hq1, rfl⟩ := hrel
    by_cases hlt : k < on
    · obtain ⟨x, rfl, e0⟩ := HO.out k hlt
      have z1 := hS.ops k hlt
      by_cases u2 : (1048576 : Int) < q + (So k).size
      · go_wp2
        go_ret
        exact ⟨bres_any _, rfl⟩
      go_wp2
      go_round
      case rel => exact ⟨k + 1, _, by omega, by go_num, by omega, by omega, rfl⟩
      case measure => simp [intOf]; omega
    · go_wp2
      go_loop [11, 13] (fun s i => ∃ (k : Nat) (q : Int), k ≤ n ∧ i = .int .i64 k ∧ 0 ≤ q ∧ q ≤ 1048576 ∧ s = .int .i64 q) (fun _ i => n - (intOf i).toNat)
      case atStart => exact ⟨0, _, Nat.zero_le _, rfl, by omega, by omega, rfl⟩
      case round =>
        obtain ⟨k, q, hk, rfl, hq0, hq1, rfl⟩ := hrel
        by_cases hlt : k < n
        · obtain ⟨x, rfl, e0, e1⟩ := ht.cs k hlt
          have z2 := hS.fil k hlt
          cases hp : Pt k with
          | none =>
            rw [hp] at e0
            clear hp
            by_cases u4 : (1048576 : Int) < q + FL k
            · go_wp2
              go_ret
              exact ⟨bres_any _, rfl⟩
            go_wp2
            go_round
            case rel => exact ⟨k + 1, _, by omega, by go_num, by omega, by omega, rfl⟩
            case measure => simp [intOf]; omega
          | some p =>
            rw [hp] at e0
            have z3 := hS.ids k hlt p hp
            have e2 := ht.id k hlt p hp
            clear hp
            by_cases u6 : (1048576 : Int) < q + (Id k).size + FL k
            · go_wp2
              go_ret
              exact ⟨bres_any _, rfl⟩
            go_wp2
            go_round
            case rel => exact ⟨k + 1, _, by omega, by go_num, by omega, by omega, rfl⟩
            case measure => simp [intOf]; omega
        · go_wp2
          go_loop [11, 14] (fun s i => ∃ (k : Nat) (q : Int), k ≤ m ∧ i = .int .i64 k ∧ 0 ≤ q ∧ q ≤ 1048576 ∧ s = .int .i64 q) (fun _ i => m - (intOf i).toNat)
          case atStart => exact ⟨0, _, Nat.zero_le _, rfl, by omega, by omega, rfl⟩
          case round =>
            obtain ⟨k, q, hk, rfl, hq0, hq1, rfl⟩ := hrel
            by_cases hlt : k < m
            · obtain ⟨x, rfl, e0⟩ := HD.out k hlt
              have z1 := hS.dev k hlt
              by_cases u6 : (1048576 : Int) < q + (Dv k).size
              · go_wp2
                go_ret
                exact ⟨bres_any _, rfl⟩
              go_wp2
              go_round
              case rel => exact ⟨k + 1, _, by omega, by go_num, by omega, by omega, rfl⟩
              case measure => simp [intOf]; omega
            · go_wp2
              go_ret
              exact ⟨bres_any _, rfl⟩

/-- All that came in. -/
structure In (W : World) (ar : Option Addr) (an ac : Nat) (ao : Option Addr) (on oc : Nat) (So : Nat → ByteArray) (a : Option Addr) (n cap : Nat) (Pt : Nat → Option Addr) (Id : Nat → ByteArray) (F : Nat → Option Addr) (FL FC : Nat → Nat) (ad : Option Addr) (m cd : Nat) (Dv : Nat → ByteArray) : Prop where
  lan : an ≤ 9223372036854775807
  lon : on ≤ 9223372036854775807
  ln : n ≤ 9223372036854775807
  lm : m ≤ 9223372036854775807
  area : U8 W ar an
  areaN : ar = none → an = 0 ∧ ac = 0
  ops : Strs W ao on So
  opsN : ao = none → on = 0 ∧ oc = 0
  opsS : ∀ i, i < on → (So i).size ≤ 9223372036854775807
  tgt : TP W a n Pt Id F FL FC
  tgtN : a = none → n = 0 ∧ cap = 0
  tgtS : ∀ i, i < n → (∀ p, Pt i = some p → (Id i).size ≤ 9223372036854775807) ∧ FL i ≤ 9223372036854775807
  tgtU : ∀ i, i < n → U8 W (F i) (FL i)
  tgtF : ∀ i, i < n → F i = none → FL i = 0 ∧ FC i = 0
  dev : Strs W ad m Dv
  devN : ad = none → m = 0 ∧ cd = 0
  devS : ∀ i, i < m → (Dv i).size ≤ 9223372036854775807

/-- The two functions that are compared, behind one another, on the copies. -/
structure Two (V : World) (af : ByteArray) (a1 : Option Addr) (n1 : Nat) (a2 : Option Addr) (n2 : Nat) (a' : Option Addr) (n : Nat) (ad' : Option Addr) (m : Nat) (Dv : Nat → ByteArray) : Prop where
  auth : Calls Try.prog 10 #[.string af, .slice a1 n1 n1, .slice a2 n2 n2, .slice a' n n] V fun e w' => ∃ at' : Option Addr, e = .returned (.agg #[.string af, .slice a1 n1 n1, .slice a2 n2 n2, .slice at' n n]) ∧ Below V.heap.size V w' ∧
    ∃ o : Option Nat, (∀ w2, Below w'.heap.size w' w2 → Calls Try.prog 11 #[.agg #[.string af, .slice a1 n1 n1, .slice a2 n2 n2, .slice at' n n], .slice ad' m m] w2 fun e w3 => e = .returned (resV Dv o) ∧ Below w2.heap.size w2 w3) ∧
      (∀ w2, Below w'.heap.size w' w2 → Calls Try.prog 12 #[.slice a' n n, .slice ad' m m] w2 fun e w3 => e = .returned (resV Dv o) ∧ Below w2.heap.size w2 w3)

theorem two_of (V : World) (af : ByteArray) (a1 : Option Addr) (n1 : Nat) (a2 : Option Addr) (n2 : Nat) (a' : Option Addr) (n : Nat) (Pt F : Nat → Option Addr) (Id : Nat → ByteArray) (FL : Nat → Nat) (ad' : Option Addr) (m : Nat) (Dv : Nat → ByteArray)
    (hN : a' = none → n = 0) (ht : TP V a' n Pt Id F FL FL) (hid : ∀ i, i < n → ∀ p, Pt i = some p → (Id i).size ≤ maxLen) (hd : Strs V ad' m Dv) (hds : ∀ i, i < m → (Dv i).size ≤ maxLen) (hn : n ≤ 1048576) (hm : m ≤ 1048576) : Two V af a1 n1 a2 n2 a' n ad' m Dv := by
  cases a' with
  | none =>
    obtain rfl := hN rfl
    refine ⟨(toAuthNil af (.slice a1 n1 n1) (.slice a2 n2 n2) V ⟨_, _, _, rfl⟩ ⟨_, _, _, rfl⟩).mono fun e w' ⟨h1, h2⟩ => ⟨none, h1, h2, none, fun w2 hb => disNil af a1 n1 n1 a2 n2 n2 ad' m m w2 Dv, fun w2 hb => unnNil ad' m m w2 Dv⟩⟩
  | some x =>
    refine ⟨(toAuthSome af (.slice a1 n1 n1) (.slice a2 n2 n2) x n Pt Id F FL V ht hn ⟨_, _, _, rfl⟩ ⟨_, _, _, rfl⟩).mono fun e w' ⟨h1, h2, h3⟩ => ⟨_, h1, h3, ?_⟩⟩
    have hex : ∃ o, First (fun k => named n (ptB Pt) (idL Id) (Dv k).data.toList) m o := by
      generalize (fun k => named n (ptB Pt) (idL Id) (Dv k).data.toList) = ok
      clear h1 h2 h3 hds hm hd
      induction m with
      | zero => exact ⟨none, fun k hk => absurd hk (by omega)⟩
      | succ m ih =>
        obtain ⟨o, ho⟩ := ih
        cases o with
        | none =>
          cases hk : ok m
          · exact ⟨some m, by omega, hk, fun j hj => ho j hj⟩
          · refine ⟨none, fun j hj => ?_⟩
            by_cases e : j = m
            · rw [e]; exact hk
            · exact ho j (by omega)
        | some k => exact ⟨some k, by have := ho.1; omega, ho.2.1, ho.2.2⟩
    obtain ⟨o, ho⟩ := hex
    refine ⟨o, fun w2 hb => ?_, fun w2 hb => ?_⟩
    · have hb' : Below V.heap.size V w2 := h3.trans (hb.mono h3.size)
      refine (disSome af a1 n1 n1 a2 n2 n2 (V.heap.size + 1) n Pt F FL Id ad' m m Dv w2 (h2.of_block (hb.block _ h2.lt)) (fun i hi p hp => ⟨(ht.below hb' (Nat.le_refl _)).id i hi p hp, hid i hi p hp⟩) (hd.below hb' (Nat.le_refl _)) hds hn hm).mono fun e w3 ⟨⟨o', ho', he⟩, h5⟩ => ⟨?_, h5⟩
      rw [first_one _ _ _ _ ho ho']; exact he
    · have hb' : Below V.heap.size V w2 := h3.trans (hb.mono h3.size)
      refine (unnSome x n Pt F FL Id ad' m m Dv w2 (ht.below hb' (Nat.le_refl _)) (hd.below hb' (Nat.le_refl _)) hn hm).mono fun e w3 ⟨⟨o', ho', he⟩, h5⟩ => ⟨?_, h5⟩
      rw [first_one _ _ _ _ ho ho']; exact he

set_option maxRecDepth 100000 in
set_option maxHeartbeats 3200000 in
theorem walk (af : ByteArray) (ar : Option Addr) (an ac : Nat) (ao : Option Addr) (on oc : Nat) (So : Nat → ByteArray) (a : Option Addr) (n cap : Nat) (Pt : Nat → Option Addr) (Id : Nat → ByteArray) (F : Nat → Option Addr) (FL FC : Nat → Nat) (ad : Option Addr) (m cd : Nat) (Dv : Nat → ByteArray) (W : World)
    (haf : af.size ≤ 9223372036854775807) (h : In W ar an ac ao on oc So a n cap Pt Id F FL FC ad m cd Dv) :
    Calls Try.prog 3 #[.string af, .slice ar an ac, .slice ao on oc, .slice a n cap, .slice ad m cd] W fun e w' => e = .returned (.bool true) ∧ Below W.heap.size W w' := by
  have l1 := h.lan
  have l2 := h.lon
  have l3 := h.ln
  have l4 := h.lm
  have hs32 := cells32
  have H5 : Hid (Calls Try.prog 5 #[.string af, .slice ar an ac, .slice ao on oc, .slice a n cap, .slice ad m cd] W fun e w' => BRes (Small on So n Pt Id FL m Dv) e ∧ w' = W) :=
    bytes5 af ar an ac ao on oc So a n cap Pt Id F FL FC ad m cd Dv W haf h.lan h.lon h.ln h.lm h.ops h.opsS h.tgt h.tgtS h.dev h.devS
  go_enter Try.func3, Try.ntmps3
  go_wp2_with fail
  refine H5.out.mono ?_
  rintro e w' ⟨⟨b, rfl, hb⟩, rfl⟩
  clear H5
  cases b
  · go_wp2_with fail
    go_ret
    exact ⟨rfl, Below.refl _ _⟩
  have hS := hb rfl
  clear hb
  by_cases t1 : (1048576 : Int) < af.size
  · go_wp2_with fail
    go_ret
    exact ⟨rfl, Below.refl _ _⟩
  by_cases t2 : (1048576 : Int) < an
  · go_wp2_with fail
    go_ret
    exact ⟨rfl, Below.refl _ _⟩
  by_cases t3 : (65536 : Int) < on
  · go_wp2_with fail
    go_ret
    exact ⟨rfl, Below.refl _ _⟩
  by_cases t4 : (4096 : Int) < n
  · go_wp2_with fail
    go_ret
    exact ⟨rfl, Below.refl _ _⟩
  by_cases t5 : (4096 : Int) < m
  · go_wp2_with fail
    go_ret
    exact ⟨rfl, Below.refl _ _⟩
  go_wp2_with fail
  refine (fits6 af ar an ac ao on oc So a n cap Pt Id F FL FC ad m cd Dv w' (by omega) (by omega) (by omega) (by omega) (by omega) h.ops h.tgt h.dev hS).mono ?_
  rintro e w1 ⟨⟨b, rfl, _⟩, rfl⟩
  cases b
  · go_wp2_with fail
    go_ret
    exact ⟨rfl, Below.refl _ _⟩
  go_wp2_with fail
  refine (copyBytes ar an ac _ h.area h.areaN (by omega)).mono ?_
  rintro e V1 ⟨a1, rfl, b1⟩
  go_wp2_with fail
  refine (copyStrings ao on oc So _ (h.ops.below b1 (Nat.le_refl _)) h.opsN (by omega)).mono ?_
  rintro e V2 ⟨a2, rfl, _, b2'⟩
  have b2 : Below w1.heap.size w1 V2 := b1.trans (b2'.mono b1.size)
  clear b1 b2'
  go_wp2_with fail
  refine (copyTargets a n cap Pt Id F FL FC _ (h.tgt.below b2 (Nat.le_refl _)) (fun i hi => (h.tgtU i hi).below b2 (Nat.le_refl _)) h.tgtF hS.fil (by omega) h.tgtN).mono ?_
  rintro e V3 ⟨a', Pt', F', rfl, ht3, hsame, hnone, b3'⟩
  have b3 : Below w1.heap.size w1 V3 := b2.trans (b3'.mono b2.size)
  clear b2 b3'
  go_wp2_with fail
  refine (copyStrings ad m cd Dv _ (h.dev.below b3 (Nat.le_refl _)) h.devN (by omega)).mono ?_
  rintro e V4 ⟨ad', rfl, hd4, b4'⟩
  have ht4 := ht3.below b4' (Nat.le_refl _)
  have b4 : Below w1.heap.size w1 V4 := b3.trans (b4'.mono b3.size)
  have HT : Hid (Two V4 af a1 an a2 on a' n ad' m Dv) := two_of V4 af a1 an a2 on a' n Pt' F' Id FL ad' m Dv (fun e => by
      subst e
      have : a.isNone = true := hnone.symm
      cases a with
      | none => exact (h.tgtN rfl).1
      | some x => cases this) ht4 (fun i hi p hp => by
        have h1 := hsame i hi
        rw [hp] at h1
        cases hq : Pt i with
        | none => rw [hq] at h1; cases h1
        | some q => have := hS.ids i hi q hq; unfold maxLen; omega) hd4 (fun i hi => by have := hS.dev i hi; unfold maxLen; omega) (by omega) (by omega)
  have HB4 : Hid (Below w1.heap.size w1 V4) := b4
  clear ht3 hsame hnone b3 b4' ht4 b4 hd4 h hS
  go_wp2_with fail
  refine HT.out.auth.mono ?_
  rintro e V5 ⟨at', rfl, b5, o, c11, c12⟩
  have H11 : Hid (∀ w2, Below V5.heap.size V5 w2 → Calls Try.prog 11 #[.agg #[.string af, .slice a1 an an, .slice a2 on on, .slice at' n n], .slice ad' m m] w2 fun e w3 => e = .returned (resV Dv o) ∧ Below w2.heap.size w2 w3) := c11
  have H12 : Hid (∀ w2, Below V5.heap.size V5 w2 → Calls Try.prog 12 #[.slice a' n n, .slice ad' m m] w2 fun e w3 => e = .returned (resV Dv o) ∧ Below w2.heap.size w2 w3) := c12
  have HB5 : Hid (Below w1.heap.size w1 V5) := HB4.out.trans (b5.mono HB4.out.size)
  clear c11 c12 b5 HT HB4
  cases o with
  | none =>
    simp only [resV] at H11 H12
    go_wp2_with fail
    refine (H11.out _ ((Below.refl _ _).alloc (Nat.le_refl _) _)).mono ?_
    rintro e V6 ⟨rfl, b6⟩
    have HB6 : Hid (Below V5.heap.size V5 V6) := ((Below.refl _ _).alloc (Nat.le_refl _) _).trans (b6.mono (by simp))
    clear b6 H11
    go_wp2_with fail
    refine (H12.out _ HB6.out).mono ?_
    rintro e V7 ⟨rfl, b7⟩
    have HB7 : Hid (Below w1.heap.size w1 V7) := HB5.out.trans ((HB6.out.trans (b7.mono HB6.out.size)).mono HB5.out.size)
    clear b7 H12
    go_wp2_with fail
    go_ret
    exact ⟨ret_bool (by simp), HB7.out⟩
  | some k =>
    simp only [resV] at H11 H12
    go_wp2_with fail
    refine (H11.out _ ((Below.refl _ _).alloc (Nat.le_refl _) _)).mono ?_
    rintro e V6 ⟨rfl, b6⟩
    have HB6 : Hid (Below V5.heap.size V5 V6) := ((Below.refl _ _).alloc (Nat.le_refl _) _).trans (b6.mono (by simp))
    clear b6 H11
    go_wp2_with fail
    refine (H12.out _ HB6.out).mono ?_
    rintro e V7 ⟨rfl, b7⟩
    have HB7 : Hid (Below w1.heap.size w1 V7) := HB5.out.trans ((HB6.out.trans (b7.mono HB6.out.size)).mono HB5.out.size)
    clear b7 H12
    go_wp2_with fail
    go_ret
    exact ⟨ret_bool (by simp), HB7.out⟩
end Go.Proofs.Qxb6601690a.Law
