import Derived.Test.Qxb6601690aTgt
namespace Go.Proofs.Qxb6601690a.Fit
open Go.ChangeShapes Go.WideShapes Go.ChangeAt Go.RowKit
open Go.Proofs.Qxb6601690a.Plain Go.Proofs.Qxb6601690a.Mem Go.Proofs.Qxb6601690a.Tgt
set_option linter.unusedVariables false
set_option linter.unusedSimpArgs false

/-- It answers a bool; where that is true, p. -/
def BRes (p : Prop) (e : Ending) : Prop := ∃ b : Bool, e = .returned (.bool b) ∧ (b = true → p)
theorem bres_false (p : Prop) : BRes p (.returned (.bool false)) := ⟨false, rfl, fun h => by cases h⟩
theorem bres_true {p : Prop} (h : p) : BRes p (.returned (.bool true)) := ⟨true, rfl, fun _ => h⟩

/-- The lengths that the law's first look bounds. -/
structure Small (on : Nat) (So : Nat → ByteArray) (n : Nat) (Pt : Nat → Option Addr) (Id : Nat → ByteArray) (FL : Nat → Nat) (m : Nat) (Dv : Nat → ByteArray) : Prop where
  ops : ∀ i, i < on → (So i).size ≤ 1048576
  ids : ∀ i, i < n → ∀ p, Pt i = some p → (Id i).size ≤ 1048576
  fil : ∀ i, i < n → FL i ≤ 1048576
  dev : ∀ i, i < m → (Dv i).size ≤ 1048576

set_option maxRecDepth 100000 in
set_option maxHeartbeats 3200000 in
theorem bytes5 (af : ByteArray) (ar : Option Addr) (an ac : Nat) (ao : Option Addr) (on oc : Nat) (So : Nat → ByteArray) (a : Option Addr) (n cap : Nat) (Pt : Nat → Option Addr) (Id : Nat → ByteArray) (F : Nat → Option Addr) (FL FC : Nat → Nat) (ad : Option Addr) (m cd : Nat) (Dv : Nat → ByteArray) (W : World)
    (haf : af.size ≤ 9223372036854775807) (han : an ≤ 9223372036854775807) (hon : on ≤ 9223372036854775807) (hn : n ≤ 9223372036854775807) (hm : m ≤ 9223372036854775807)
    (ho : Strs W ao on So) (hos : ∀ i, i < on → (So i).size ≤ 9223372036854775807) (ht : TP W a n Pt Id F FL FC) (hts : ∀ i, i < n → (∀ p, Pt i = some p → (Id i).size ≤ 9223372036854775807) ∧ FL i ≤ 9223372036854775807) (hd : Strs W ad m Dv) (hds : ∀ i, i < m → (Dv i).size ≤ 9223372036854775807) :
    Calls Try.prog 5 #[.string af, .slice ar an ac, .slice ao on oc, .slice a n cap, .slice ad m cd] W fun e w' => BRes (Small on So n Pt Id FL m Dv) e ∧ w' = W := by
  have hs41 := cells41
  have HO : Hid (Strs W ao on So) := ho
  have HOS : Hid (∀ i, i < on → (So i).size ≤ 9223372036854775807) := hos
  have HTS : Hid (∀ i, i < n → (∀ p, Pt i = some p → (Id i).size ≤ 9223372036854775807) ∧ FL i ≤ 9223372036854775807) := hts
  have HD : Hid (Strs W ad m Dv) := hd
  have HDS : Hid (∀ i, i < m → (Dv i).size ≤ 9223372036854775807) := hds
  clear ho hos hts hd hds
  by_cases t1 : (1048576 : Int) < af.size
  · go_enter Try.func5, Try.ntmps5
    go_wp2
    go_ret
    exact ⟨bres_false _, rfl⟩
  by_cases t2 : (1048576 : Int) < an
  · go_enter Try.func5, Try.ntmps5
    go_wp2
    go_ret
    exact ⟨bres_false _, rfl⟩
  by_cases t3 : (1048576 : Int) < (af.size : Int) + an
  · go_enter Try.func5, Try.ntmps5
    go_wp2
    go_ret
    exact ⟨bres_false _, rfl⟩
  by_cases t4 : (1048576 : Int) < on
  · go_enter Try.func5, Try.ntmps5
    go_wp2
    go_ret
    exact ⟨bres_false _, rfl⟩
  by_cases t5 : (1048576 : Int) < (af.size : Int) + an + on
  · go_enter Try.func5, Try.ntmps5
    go_wp2
    go_ret
    exact ⟨bres_false _, rfl⟩
  go_enter Try.func5, Try.ntmps5
  go_wp2
  go_loop [11, 12] (fun s i => ∃ (k : Nat) (q : Int), k ≤ on ∧ i = .int .i64 k ∧ 0 ≤ q ∧ q ≤ 1048576 ∧ s = .int .i64 q ∧ Hid (∀ j, j < k → (So j).size ≤ 1048576)) (fun _ i => on - (intOf i).toNat)
  case atStart => exact ⟨0, _, Nat.zero_le _, rfl, by omega, by omega, rfl, (fun j hj => absurd hj (by omega) : ∀ j, j < 0 → (So j).size ≤ 1048576)⟩
  case round =>
    obtain ⟨k, q, hk, rfl, hq0, hq1, rfl, HJ⟩ := hrel
    by_cases hlt : k < on
    · obtain ⟨x, rfl, e0⟩ := HO.out k hlt
      have z1 := HOS.out k hlt
      by_cases u1 : (1048576 : Int) < (So k).size
      · go_wp2
        go_ret
        exact ⟨bres_false _, rfl⟩
      by_cases u2 : (1048576 : Int) < q + (So k).size
      · go_wp2
        go_ret
        exact ⟨bres_false _, rfl⟩
      have HJ1 : Hid (∀ j, j < k + 1 → (So j).size ≤ 1048576) := by
        intro j hj
        by_cases e : j = k
        · subst e; omega
        · exact HJ.out j (by omega)
      go_wp2
      go_round
      case rel => exact ⟨k + 1, _, by omega, by go_num, by omega, by omega, rfl, HJ1⟩
      case measure => simp [intOf]; omega
    · have HJO : Hid (∀ j, j < on → (So j).size ≤ 1048576) := fun j hj => HJ.out j (by omega)
      clear HJ
      by_cases u1 : (1048576 : Int) < n
      · go_wp2
        go_ret
        exact ⟨bres_false _, rfl⟩
      by_cases u2 : (1048576 : Int) < q + n
      · go_wp2
        go_ret
        exact ⟨bres_false _, rfl⟩
      go_wp2
      go_loop [11, 13] (fun s i => ∃ (k : Nat) (q : Int), k ≤ n ∧ i = .int .i64 k ∧ 0 ≤ q ∧ q ≤ 1048576 ∧ s = .int .i64 q ∧ Hid (∀ j, j < k → (∀ p, Pt j = some p → (Id j).size ≤ 1048576) ∧ FL j ≤ 1048576)) (fun _ i => n - (intOf i).toNat)
      case atStart => exact ⟨0, _, Nat.zero_le _, rfl, by omega, by omega, rfl, (fun j hj => absurd hj (by omega) : ∀ j, j < 0 → (∀ p, Pt j = some p → (Id j).size ≤ 1048576) ∧ FL j ≤ 1048576)⟩
      case round =>
        obtain ⟨k, q, hk, rfl, hq0, hq1, rfl, HJ⟩ := hrel
        by_cases hlt : k < n
        · obtain ⟨x, rfl, e0, e1⟩ := ht.cs k hlt
          obtain ⟨z1, z2⟩ := HTS.out k hlt
          cases hp : Pt k with
          | none =>
            rw [hp] at e0
            by_cases u3 : (1048576 : Int) < FL k
            · go_wp2
              go_ret
              exact ⟨bres_false _, rfl⟩
            by_cases u4 : (1048576 : Int) < q + FL k
            · go_wp2
              go_ret
              exact ⟨bres_false _, rfl⟩
            have HJ1 : Hid (∀ j, j < k + 1 → (∀ p, Pt j = some p → (Id j).size ≤ 1048576) ∧ FL j ≤ 1048576) := by
              intro j hj
              by_cases e : j = k
              · subst e; exact ⟨fun p h => by (rw [hp] at h; cases h), by omega⟩
              · exact HJ.out j (by omega)
            clear hp z1
            go_wp2
            go_round
            case rel => exact ⟨k + 1, _, by omega, by go_num, by omega, by omega, rfl, HJ1⟩
            case measure => simp [intOf]; omega
          | some p =>
            rw [hp] at e0
            have z3 := z1 p hp
            have e2 := ht.id k hlt p hp
            clear z1
            by_cases u3 : (1048576 : Int) < (Id k).size
            · clear hp
              go_wp2
              go_ret
              exact ⟨bres_false _, rfl⟩
            by_cases u4 : (1048576 : Int) < q + (Id k).size
            · clear hp
              go_wp2
              go_ret
              exact ⟨bres_false _, rfl⟩
            by_cases u5 : (1048576 : Int) < FL k
            · clear hp
              go_wp2
              go_ret
              exact ⟨bres_false _, rfl⟩
            by_cases u6 : (1048576 : Int) < q + (Id k).size + FL k
            · clear hp
              go_wp2
              go_ret
              exact ⟨bres_false _, rfl⟩
            have HJ1 : Hid (∀ j, j < k + 1 → (∀ p, Pt j = some p → (Id j).size ≤ 1048576) ∧ FL j ≤ 1048576) := by
              intro j hj
              by_cases e : j = k
              · subst e; exact ⟨fun p h => by omega, by omega⟩
              · exact HJ.out j (by omega)
            clear hp
            go_wp2
            go_round
            case rel => exact ⟨k + 1, _, by omega, by go_num, by omega, by omega, rfl, HJ1⟩
            case measure => simp [intOf]; omega
        · have HJT : Hid (∀ j, j < n → (∀ p, Pt j = some p → (Id j).size ≤ 1048576) ∧ FL j ≤ 1048576) := fun j hj => HJ.out j (by omega)
          clear HJ
          by_cases u3 : (1048576 : Int) < m
          · go_wp2
            go_ret
            exact ⟨bres_false _, rfl⟩
          by_cases u4 : (1048576 : Int) < q + m
          · go_wp2
            go_ret
            exact ⟨bres_false _, rfl⟩
          go_wp2
          go_loop [11, 14] (fun s i => ∃ (k : Nat) (q : Int), k ≤ m ∧ i = .int .i64 k ∧ 0 ≤ q ∧ q ≤ 1048576 ∧ s = .int .i64 q ∧ Hid (∀ j, j < k → (Dv j).size ≤ 1048576)) (fun _ i => m - (intOf i).toNat)
          case atStart => exact ⟨0, _, Nat.zero_le _, rfl, by omega, by omega, rfl, (fun j hj => absurd hj (by omega) : ∀ j, j < 0 → (Dv j).size ≤ 1048576)⟩
          case round =>
            obtain ⟨k, q, hk, rfl, hq0, hq1, rfl, HJ⟩ := hrel
            by_cases hlt : k < m
            · obtain ⟨x, rfl, e0⟩ := HD.out k hlt
              have z1 := HDS.out k hlt
              by_cases u5 : (1048576 : Int) < (Dv k).size
              · go_wp2
                go_ret
                exact ⟨bres_false _, rfl⟩
              by_cases u6 : (1048576 : Int) < q + (Dv k).size
              · go_wp2
                go_ret
                exact ⟨bres_false _, rfl⟩
              have HJ1 : Hid (∀ j, j < k + 1 → (Dv j).size ≤ 1048576) := by
                intro j hj
                by_cases e : j = k
                · subst e; omega
                · exact HJ.out j (by omega)
              go_wp2
              go_round
              case rel => exact ⟨k + 1, _, by omega, by go_num, by omega, by omega, rfl, HJ1⟩
              case measure => simp [intOf]; omega
            · have HS : Hid (Small on So n Pt Id FL m Dv) := ⟨HJO.out, fun i hi => (HJT.out i hi).1, fun i hi => (HJT.out i hi).2, fun i hi => HJ.out i (by omega)⟩
              go_wp2
              go_ret
              exact ⟨bres_true HS.out, rfl⟩
end Go.Proofs.Qxb6601690a.Fit
