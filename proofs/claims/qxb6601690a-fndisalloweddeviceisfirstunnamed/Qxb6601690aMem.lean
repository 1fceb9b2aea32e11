import Derived.Test.Qxb6601690aRows
import Derived.Test.Qxb6601690aPlain
import Derived.WalkKit
import Derived.ProofKit
import Derived.OpenShut
import Derived.Deep.OwnRows
import Derived.Deep.QuietTactic
import Derived.BigQuiet
import Derived.Lib.SliceRun
namespace Go.Proofs.Qxb6601690a.Mem
open Go.ChangeShapes Go.WideShapes Go.ChangeAt Go.RowKit
open Go.Proofs.Qxb6601690a.Plain
set_option linter.unusedVariables false
set_option linter.unusedSimpArgs false

theorem ret_bool {a b : Bool} (h : a = b) : Ending.returned (.bool a) = .returned (.bool b) := by rw [h]
theorem val_int {k : IntKind} {a b : Int} (h : a = b) : Value.int k a = .int k b := by rw [h]
theorem cells41 : Try.prog.cellsOf 41 = 2 := by kernel_rfl
theorem info5 : (Try.prog.info? 5).map (fun i => (i.zero, i.size, i.bytes)) = some (some (.int .u8 0), 1, 1) := by kernel_rfl
theorem info9 : (Try.prog.info? 9).map (fun i => (i.zero, i.size, i.bytes)) = some (some (.string ByteArray.empty), 1, 16) := by kernel_rfl
theorem lt_of_cell {w : World} {a : Addr} {v : Value} (h : w.cell? a = some v) : a.block < w.heap.size := by
  unfold World.cell? at h
  by_cases hb : a.block < w.heap.size
  · exact hb
  · rw [Array.getElem?_eq_none (by omega)] at h
    simp at h

/-- A slice of bytes at a: n of them. -/
def U8 (W : World) (a : Option Addr) (n : Nat) : Prop := ∀ i, i < n → ∃ x z, a = some x ∧ W.cell? (x.add i) = some (.int .u8 z)
/-- A slice of strings at a. -/
def Strs (W : World) (a : Option Addr) (n : Nat) (s : Nat → ByteArray) : Prop := ∀ i, i < n → ∃ x, a = some x ∧ W.cell? (x.add i) = some (.string (s i))
theorem U8.below {W W' : World} {B : Nat} {a : Option Addr} {n : Nat} (h : U8 W a n) (hb : Below B W W') (hB : W.heap.size ≤ B) : U8 W' a n := by
  intro i hi
  obtain ⟨x, z, hx, hc⟩ := h i hi
  exact ⟨x, z, hx, by rw [hb.cell (Nat.lt_of_lt_of_le (lt_of_cell hc) hB)]; exact hc⟩
theorem Strs.below {W W' : World} {B : Nat} {a : Option Addr} {n : Nat} {s : Nat → ByteArray} (h : Strs W a n s) (hb : Below B W W') (hB : W.heap.size ≤ B) : Strs W' a n s := by
  intro i hi
  obtain ⟨x, hx, hc⟩ := h i hi
  exact ⟨x, hx, by rw [hb.cell (Nat.lt_of_lt_of_le (lt_of_cell hc) hB)]; exact hc⟩

set_option maxHeartbeats 800000 in
theorem copyBytesNil (W : World) : Calls Try.prog 7 #[.slice none 0 0] W fun e w' => e = .returned (.slice none 0 0) ∧ w' = W := by
  have hnil := fun w => Lib.run_eql_slice_nil (P := Try.prog) w 22 5 none 0 0 0 0 Try.underlying22
  go_enter Try.func7, Try.ntmps7
  go_wp2
  go_ret
  exact ⟨rfl, rfl⟩
set_option maxHeartbeats 800000 in
theorem copyBytesSome (x : Addr) (n cap : Nat) (W : World) (hc : U8 W (some x) n) (hn : n ≤ 1048576) :
    Calls Try.prog 7 #[.slice (some x) n cap] W fun e w' => e = .returned (.slice (some ⟨W.heap.size, 0, none⟩) n n) ∧ Below W.heap.size W w' ∧ w'.heap.size = W.heap.size + 1 := by
  have hmk := run_make_row' (P := Try.prog) 22 5 (.int .u8 0) 1 Try.underlying22 info5 rfl .i64 .i64 n (by omega) (by omega)
  have hnil := fun w => Lib.run_eql_slice_nil (P := Try.prog) w 22 5 (some x) n cap 0 0 Try.underlying22
  have HC : Hid (U8 W (some x) n) := hc
  clear hc
  go_enter Try.func7, Try.ntmps7
  go_wp2
  go_loopw [4] (fun i wr => ∃ (k : Nat) (f : Nat → Value), k ≤ n ∧ i = .int .i64 k ∧ Hid (wr.rowIs W.heap.size 5 n f) ∧ Hid (Below W.heap.size W wr) ∧ wr.heap.size = W.heap.size + 1) (fun i _ => n - (intOf i).toNat)
  case atStart =>
    refine ⟨0, fun _ => .int .u8 0, Nat.zero_le _, rfl, ?_, (Below.refl _ _).alloc (Nat.le_refl _) _, by simp⟩
    show World.rowIs _ _ _ _ _
    exact World.rowIs_made W (.int .u8 0) n 5
  case round =>
    obtain ⟨k, f, hk, rfl, HR, HB, hsz⟩ := hrel
    by_cases hlt : k < n
    · obtain ⟨x', z, hx', hck⟩ := HC.out k hlt
      cases hx'
      have hxb : (x.add k).block < W.heap.size := lt_of_cell hck
      have hc1 : wr.cell? (x.add k) = some (.int .u8 z) := by rw [HB.out.cell hxb]; exact hck
      have hc2 := HR.out.cell hlt
      have hf2 := HR.out.frozen k
      clear hck
      go_wp2
      go_roundw
      case rel => exact ⟨k + 1, _, by omega, by go_num, HR.out.set k _, HB.out.setCell (Nat.le_refl _) _, by rw [World.size_setCell]; exact hsz⟩
      case measure => simp [intOf]; omega
    · go_wp2
      go_ret
      exact ⟨rfl, HB.out, hsz⟩
/-- 'copyBytes', nil or not. -/
theorem copyBytes (a : Option Addr) (n cap : Nat) (W : World) (hc : U8 W a n) (hnil : a = none → n = 0 ∧ cap = 0) (hn : n ≤ 1048576) :
    Calls Try.prog 7 #[.slice a n cap] W fun e w' => ∃ a' : Option Addr, e = .returned (.slice a' n n) ∧ Below W.heap.size W w' := by
  cases a with
  | none =>
    obtain ⟨rfl, rfl⟩ := hnil rfl
    exact (copyBytesNil W).mono fun e w' ⟨h1, h2⟩ => ⟨none, h1, by rw [h2]; exact Below.refl _ _⟩
  | some x => exact (copyBytesSome x n cap W hc hn).mono fun e w' ⟨h1, h2, _⟩ => ⟨_, h1, h2⟩

set_option maxHeartbeats 800000 in
theorem copyStringsNil (W : World) : Calls Try.prog 8 #[.slice none 0 0] W fun e w' => e = .returned (.slice none 0 0) ∧ w' = W := by
  have hnil := fun w => Lib.run_eql_slice_nil (P := Try.prog) w 23 9 none 0 0 0 0 Try.underlying23
  go_enter Try.func8, Try.ntmps8
  go_wp2
  go_ret
  exact ⟨rfl, rfl⟩
set_option maxHeartbeats 800000 in
theorem copyStringsSome (x : Addr) (n cap : Nat) (s : Nat → ByteArray) (W : World) (hc : Strs W (some x) n s) (hn : n ≤ 1048576) :
    Calls Try.prog 8 #[.slice (some x) n cap] W fun e w' => e = .returned (.slice (some ⟨W.heap.size, 0, none⟩) n n) ∧ w'.rowIs W.heap.size 9 n (fun i => .string (s i)) ∧ Below W.heap.size W w' := by
  have hmk := run_make_row' (P := Try.prog) 23 9 (.string ByteArray.empty) 16 Try.underlying23 info9 rfl .i64 .i64 n (by omega) (by omega)
  have hnil := fun w => Lib.run_eql_slice_nil (P := Try.prog) w 23 9 (some x) n cap 0 0 Try.underlying23
  have HC : Hid (Strs W (some x) n s) := hc
  clear hc
  go_enter Try.func8, Try.ntmps8
  go_wp2
  go_loopw [4] (fun i wr => ∃ k : Nat, k ≤ n ∧ i = .int .i64 k ∧ Hid (wr.rowIs W.heap.size 9 n (fun j => .string (if j < k then s j else ByteArray.empty))) ∧ Hid (Below W.heap.size W wr)) (fun i _ => n - (intOf i).toNat)
  case atStart =>
    refine ⟨0, Nat.zero_le _, rfl, ?_, (Below.refl _ _).alloc (Nat.le_refl _) _⟩
    show World.rowIs _ _ _ _ _
    exact (World.rowIs_made W (.string ByteArray.empty) n 9).congr fun i hi => by rw [if_neg (by omega)]
  case round =>
    obtain ⟨k, hk, rfl, HR, HB⟩ := hrel
    by_cases hlt : k < n
    · obtain ⟨x', hx', hck⟩ := HC.out k hlt
      cases hx'
      have hxb : (x.add k).block < W.heap.size := lt_of_cell hck
      have hc1 : wr.cell? (x.add k) = some (.string (s k)) := by rw [HB.out.cell hxb]; exact hck
      have hc2 := HR.out.cell hlt
      have hf2 := HR.out.frozen k
      clear hck
      go_wp2
      go_roundw
      case rel =>
        refine ⟨k + 1, by omega, by go_num, ?_, HB.out.setCell (Nat.le_refl _) _⟩
        show World.rowIs _ _ _ _ _
        refine (HR.out.set k _).congr fun j hj => ?_
        by_cases hjk : j = k
        · subst hjk; rw [if_pos rfl, if_pos (by omega)]
        · rw [if_neg hjk]
          by_cases h1 : j < k
          · rw [if_pos h1, if_pos (by omega)]
          · rw [if_neg h1, if_neg (by omega)]
      case measure => simp [intOf]; omega
    · go_wp2
      go_ret
      have e : k = n := by omega
      subst e
      exact ⟨rfl, HR.out.congr fun i hi => by rw [if_pos hi], HB.out⟩
theorem row_strs {w : World} {b n : Nat} {s : Nat → ByteArray} (h : w.rowIs b 9 n (fun i => .string (s i))) : Strs w (some ⟨b, 0, none⟩) n s := by
  intro i hi
  refine ⟨_, rfl, ?_⟩
  have := h.cell hi
  by_cases h0 : i = 0
  · subst h0; exact this
  · simpa [Addr.add, h0] using this
/-- 'copyStrings', nil or not. -/
theorem copyStrings (a : Option Addr) (n cap : Nat) (s : Nat → ByteArray) (W : World) (hc : Strs W a n s) (hnil : a = none → n = 0 ∧ cap = 0) (hn : n ≤ 1048576) :
    Calls Try.prog 8 #[.slice a n cap] W fun e w' => ∃ a' : Option Addr, e = .returned (.slice a' n n) ∧ Strs w' a' n s ∧ Below W.heap.size W w' := by
  cases a with
  | none =>
    obtain ⟨rfl, rfl⟩ := hnil rfl
    exact (copyStringsNil W).mono fun e w' ⟨h1, h2⟩ => ⟨none, h1, fun i hi => absurd hi (by omega), by rw [h2]; exact Below.refl _ _⟩
  | some x => exact (copyStringsSome x n cap s W hc hn).mono fun e w' ⟨h1, h2, h3⟩ => ⟨_, h1, row_strs h2, h3⟩
end Go.Proofs.Qxb6601690a.Mem
