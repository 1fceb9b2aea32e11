import Derived.Test.Qxb6601594aMap
import Derived.Test.Qxb6601594aPlain
import Derived.Deep.OwnRows
import Derived.Deep.QuietTactic
import Derived.Deep.CutBlock
import Derived.Deep.DeepCutAuto
import Derived.BigQuiet
import Derived.Lib.SliceRun
namespace Go.Proofs.Qxb6601594a.Mem
open Go.ChangeShapes Go.WideShapes Go.ChangeAt Go.RowKit Go.Maps
open Go.Proofs.Qxb6601594a.Plain Go.Proofs.Qxb6601594a.Map
set_option linter.unusedVariables false
set_option linter.unusedSimpArgs false

theorem ret_bool {a b : Bool} (h : a = b) : Ending.returned (.bool a) = .returned (.bool b) := by rw [h]
theorem val_int {k : IntKind} {a b : Int} (h : a = b) : Value.int k a = .int k b := by rw [h]
theorem lt_of_cell {w : World} {a : Addr} {v : Value} (h : w.cell? a = some v) : a.block < w.heap.size := by
  unfold World.cell? at h
  by_cases hb : a.block < w.heap.size
  · exact hb
  · rw [Array.getElem?_eq_none (by omega)] at h
    simp at h
theorem bytes_beq (a b : ByteArray) : (a.toList == b.toList) = decide (a = b) := by
  by_cases h : a = b
  · subst h; simp
  · rw [decide_eq_false h]
    have : a.toList ≠ b.toList := by
      intro e
      rw [ByteArray.toList_eq, ByteArray.toList_eq] at e
      exact h (ByteArray.ext (Array.toList_inj.1 e))
    simpa using this

/-- A role: m labels, the keys K, the values V. -/
structure RoleIn (W : World) (r : Option Addr) (m : Nat) (K V : Nat → ByteArray) : Prop where
  cs : ∀ j, j < m → ∃ x, r = some x ∧ W.cell? (x.add (j * 2)) = some (.string (K j)) ∧ W.cell? ⟨(x.add (j * 2)).block, (x.add (j * 2)).off + 1, none⟩ = some (.string (V j))
  sz : ∀ j, j < m → (K j).size ≤ 9223372036854775807 ∧ (V j).size ≤ 9223372036854775807
theorem RoleIn.below {W W' : World} {r : Option Addr} {m : Nat} {K V : Nat → ByteArray} (h : RoleIn W r m K V) {B : Nat} (hb : Below B W W') (hB : W.heap.size ≤ B) : RoleIn W' r m K V := by
  refine ⟨fun i hi => ?_, h.sz⟩
  obtain ⟨x, e, h0, h1⟩ := h.cs i hi
  exact ⟨x, e, by rw [hb.cell (Nat.lt_of_lt_of_le (lt_of_cell h0) hB)]; exact h0, by rw [hb.cell (Nat.lt_of_lt_of_le (lt_of_cell h1) hB)]; exact h1⟩

/-- The roles' labels: n roles. -/
structure LabIn (W : World) (a : Option Addr) (n : Nat) (R : Nat → Option Addr) (L C : Nat → Nat) (K V : Nat → Nat → ByteArray) : Prop where
  cs : ∀ i, i < n → ∃ x, a = some x ∧ W.cell? (x.add i) = some (.slice (R i) (L i) (C i))
  sz : ∀ i, i < n → L i ≤ 9223372036854775807
  role : ∀ i, i < n → RoleIn W (R i) (L i) (K i) (V i)
theorem LabIn.below {W W' : World} {a : Option Addr} {n : Nat} {R : Nat → Option Addr} {L C : Nat → Nat} {K V : Nat → Nat → ByteArray} (h : LabIn W a n R L C K V) {B : Nat} (hb : Below B W W') (hB : W.heap.size ≤ B) : LabIn W' a n R L C K V := by
  refine ⟨fun i hi => ?_, h.sz, fun i hi => (h.role i hi).below hb hB⟩
  obtain ⟨x, e, h0⟩ := h.cs i hi
  exact ⟨x, e, by rw [hb.cell (Nat.lt_of_lt_of_le (lt_of_cell h0) hB)]; exact h0⟩

set_option maxHeartbeats 1600000 in
theorem on23 (r : Option Addr) (m cap : Nat) (kind : Int) (key value : ByteArray) (K V : Nat → ByteArray) (W : World) (h : RoleIn W r m K V) (hm : m ≤ 9223372036854775807) :
    Calls Try.prog 23 #[.slice r m cap, .int .i64 kind, .string key, .string value] W fun e w' => e = .returned (.bool (onP kind value (lastV K V m key))) ∧ w' = W := by
  have hs36 := cells36
  go_enter Try.func23, Try.ntmps23
  go_wp2
  go_loop [9, 10, 11] (fun p c i => ∃ t : Nat, t ≤ m ∧ i = .int .i64 ((t : Int) - 1) ∧ p = .bool false ∧ c = .string ByteArray.empty ∧ Hid (lastV K V m key = lastV K V t key)) (fun _ _ i => (intOf i + 1).toNat)
  case atStart => exact ⟨m, Nat.le_refl _, by go_num, rfl, rfl, (show _ = _ from rfl)⟩
  case round =>
    obtain ⟨t, ht, rfl, rfl, rfl, HT⟩ := hrel
    by_cases hlt : 0 < t
    · obtain ⟨t, rfl⟩ : ∃ s, t = s + 1 := ⟨t - 1, by omega⟩
      obtain ⟨x, rfl, e0, e1⟩ := h.cs t (by omega)
      have et : ((t + 1 : Nat) : Int) - 1 = t := by omega
      rw [et]
      by_cases he : K t = key
      · have HV : Hid (lastV K V m key = some (V t)) := by show _ = _; rw [HT.out, lastV_here K V t he]
        have hbe : ((K t).toList == key.toList) = true := by rw [bytes_beq]; exact decide_eq_true he
        clear he HT
        by_cases k1 : kind = 1
        · subst k1
          go_wp2
          go_ret
          exact ⟨ret_bool (by rw [onP1]), rfl⟩
        by_cases k2 : kind = 2
        · subst k2
          go_wp2
          go_ret
          exact ⟨ret_bool (by rw [onP2, HV.out]; rfl), rfl⟩
        by_cases k3 : kind = 3
        · subst k3
          go_wp2
          go_ret
          exact ⟨ret_bool (by rw [onP3, HV.out, bytes_beq]; simp), rfl⟩
        go_wp2
        go_ret
        exact ⟨ret_bool (by rw [onP0 _ _ k1 k2 k3]), rfl⟩
      · have HV : Hid (lastV K V m key = lastV K V t key) := by show _ = _; rw [HT.out, lastV_other K V t he]
        have hbe : ((K t).toList == key.toList) = false := by rw [bytes_beq]; exact decide_eq_false he
        clear he
        go_wp2
        go_round
        case rel => exact ⟨t, by omega, by go_num, rfl, rfl, HV⟩
        case measure => simp [intOf]
    · obtain rfl : t = 0 := by omega
      have HV : Hid (lastV K V m key = none) := HT
      by_cases k1 : kind = 1
      · subst k1
        go_wp2
        go_ret
        exact ⟨ret_bool (by rw [onP1]), rfl⟩
      by_cases k2 : kind = 2
      · subst k2
        go_wp2
        go_ret
        exact ⟨ret_bool (by rw [onP2, HV.out]; rfl), rfl⟩
      by_cases k3 : kind = 3
      · subst k3
        go_wp2
        go_ret
        exact ⟨ret_bool (by rw [onP3, HV.out]; simp), rfl⟩
      go_wp2
      go_ret
      exact ⟨ret_bool (by rw [onP0 _ _ k1 k2 k3]), rfl⟩

set_option maxHeartbeats 1600000 in
theorem countOn (a : Option Addr) (n cap : Nat) (R : Nat → Option Addr) (L C : Nat → Nat) (K V : Nat → Nat → ByteArray) (kind : Int) (key value : ByteArray) (W : World) (h : LabIn W a n R L C K V) (hn : n ≤ 1048576) :
    Calls Try.prog 11 #[.slice a n cap, .int .i64 kind, .string key, .string value] W fun e w' => e = .returned (.int .i64 (cnt (fun i => onP kind value (lastV (K i) (V i) (L i) key)) n)) ∧ w' = W := by
  go_enter Try.func11, Try.ntmps11
  go_wp2
  go_loop [9, 10] (fun s i => ∃ t : Nat, t ≤ n ∧ i = .int .i64 t ∧ s = .int .i64 (cnt (fun i => onP kind value (lastV (K i) (V i) (L i) key)) t)) (fun _ i => n - (intOf i).toNat)
  case atStart => exact ⟨0, Nat.zero_le _, rfl, rfl⟩
  case round =>
    obtain ⟨t, ht, rfl, rfl⟩ := hrel
    have hle := cnt_le (fun i => onP kind value (lastV (K i) (V i) (L i) key)) t
    by_cases hlt : t < n
    · obtain ⟨x, rfl, e0⟩ := h.cs t hlt
      have HCALL : Hid (Calls Try.prog 23 #[.slice (R t) (L t) (C t), .int .i64 kind, .string key, .string value] W fun e w' => e = .returned (.bool (onP kind value (lastV (K t) (V t) (L t) key))) ∧ w' = W) := on23 (R t) (L t) (C t) kind key value (K t) (V t) W (h.role t hlt) (h.sz t hlt)
      cases hb : onP kind value (lastV (K t) (V t) (L t) key)
      · have HC : Hid (cnt (fun i => onP kind value (lastV (K i) (V i) (L i) key)) (t + 1) = cnt (fun i => onP kind value (lastV (K i) (V i) (L i) key)) t) := by show _ = _; simp [cnt, hb]
        rw [hb] at HCALL
        clear hb
        go_wp2_with (go_at_call 23; refine HCALL.out.mono ?_; rintro e w' ⟨rfl, rfl⟩)
        go_wp2
        go_round
        case rel => exact ⟨t + 1, by omega, by go_num, by rw [HC.out]⟩
        case measure => simp [intOf]; omega
      · have HC : Hid (cnt (fun i => onP kind value (lastV (K i) (V i) (L i) key)) (t + 1) = cnt (fun i => onP kind value (lastV (K i) (V i) (L i) key)) t + 1) := by show _ = _; simp [cnt, hb]
        rw [hb] at HCALL
        clear hb
        go_wp2_with (go_at_call 23; refine HCALL.out.mono ?_; rintro e w' ⟨rfl, rfl⟩)
        go_wp2
        go_round
        case rel => exact ⟨t + 1, by omega, by go_num, by rw [HC.out]; go_num⟩
        case measure => simp [intOf]; omega
    · obtain rfl : t = n := by omega
      go_wp2
      go_ret
      exact ⟨rfl, rfl⟩

end Go.Proofs.Qxb6601594a.Mem
