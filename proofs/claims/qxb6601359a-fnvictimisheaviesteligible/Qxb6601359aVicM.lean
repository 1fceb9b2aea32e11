import Derived.Test.Qxb6601359aVicZ
import Derived.Deep.DeepCutAuto
import Derived.Lib.SliceRun
namespace Go.Proofs.Qxb6601359a.Vic
open Go.ChangeShapes Go.WideShapes Go.ChangeAt Go.RowKit Go.Maps
open Go.Proofs.Qxb6601359a.Mem
set_option linter.unusedVariables false
set_option linter.unusedSimpArgs false

theorem cells28 : Try.prog.cellsOf 28 = 4 := by kernel_rfl

/-- A slice of kinds that came in, nil or not. -/
structure KIn (W : World) (a : Option Addr) (n : Nat) (Nm : Nat → ByteArray) (R : Nat → Option Addr) (L C : Nat → Nat) (Z : Nat → Nat → Int) (S B : Nat → Int) : Prop where
  cs : ∀ i, i < n → ∃ x, a = some x ∧ W.cell? (x.add (i * 4)) = some (.string (Nm i)) ∧ W.cell? ⟨(x.add (i * 4)).block, (x.add (i * 4)).off + 1, none⟩ = some (.slice (R i) (L i) (C i)) ∧ W.cell? ⟨(x.add (i * 4)).block, (x.add (i * 4)).off + 2, none⟩ = some (.int .u64 (S i)) ∧ W.cell? ⟨(x.add (i * 4)).block, (x.add (i * 4)).off + 3, none⟩ = some (.int .i64 (B i))
  sz : ∀ i, i < n → (Nm i).size ≤ 9223372036854775807 ∧ L i ≤ 9223372036854775807
  u : ∀ i, i < n → U64 W (R i) (L i) (Z i)
  nil : ∀ i, i < n → R i = none → L i = 0 ∧ C i = 0

theorem KIn.below {W W' : World} {a : Option Addr} {n : Nat} {Nm : Nat → ByteArray} {R : Nat → Option Addr} {L C : Nat → Nat} {Z : Nat → Nat → Int} {S B : Nat → Int} (h : KIn W a n Nm R L C Z S B) (hb : Below W.heap.size W W') : KIn W' a n Nm R L C Z S B := by
  refine ⟨fun i hi => ?_, h.sz, fun i hi => (h.u i hi).below hb (Nat.le_refl _), h.nil⟩
  obtain ⟨x, e, h0, h1, h2, h3⟩ := h.cs i hi
  exact ⟨x, e, by rw [hb.cell (lt_of_cell h0)]; exact h0, by rw [hb.cell (lt_of_cell h1)]; exact h1, by rw [hb.cell (lt_of_cell h2)]; exact h2, by rw [hb.cell (lt_of_cell h3)]; exact h3⟩

def SomeBool (e : Ending) : Prop := ∃ b, e = .returned (.bool b)
theorem someBool (b : Bool) : SomeBool (.returned (.bool b)) := ⟨b, rfl⟩
set_option maxHeartbeats 1600000 in
theorem bytes15 (a : Option Addr) (n cap : Nat) (Nm : Nat → ByteArray) (R : Nat → Option Addr) (L C : Nat → Nat) (Z : Nat → Nat → Int) (S B : Nat → Int) (base ev bts mx mbs : Int) (newest : ByteArray) (W : World)
    (h : KIn W a n Nm R L C Z S B) (hn : n ≤ 9223372036854775807) (hnew : newest.size ≤ 9223372036854775807) :
    Calls Try.prog 15 #[.slice a n cap, .int .u64 base, .int .i64 ev, .int .i64 bts, .int .i64 mx, .int .i64 mbs, .string newest] W fun e w' => SomeBool e ∧ w' = W := by
  by_cases hb0 : n ≤ 1048576
  case neg =>
    have hb1 : (1048576 : Int) < n := by omega
    clear h
    go_enter Try.func15, Try.ntmps15
    go_wp2
    go_ret
    exact ⟨someBool _, rfl⟩
  have hb1 : ¬ (1048576 : Int) < n := by omega
  have hs28 := cells28
  go_enter Try.func15, Try.ntmps15
  go_wp2
  go_loop [15, 16] (fun s i => ∃ (k : Nat) (q : Int), k ≤ n ∧ i = .int .i64 k ∧ 0 ≤ q ∧ q ≤ 1048576 ∧ s = .int .i64 q) (fun _ i => n - (intOf i).toNat)
  case atStart => exact ⟨0, n, Nat.zero_le _, rfl, by omega, by omega, rfl⟩
  case round =>
    obtain ⟨k, q, hk, rfl, hq0, hq1, rfl⟩ := hrel
    by_cases hlt : k < n
    · obtain ⟨x, rfl, e0, e1, e2, e3⟩ := h.cs k hlt
      obtain ⟨z1, z2⟩ := h.sz k hlt
      by_cases t1 : (1048576 : Int) < (Nm k).size
      · go_wp2
        go_ret
        exact ⟨someBool _, rfl⟩
      by_cases t2 : (1048576 : Int) < q + (Nm k).size
      · go_wp2
        go_ret
        exact ⟨someBool _, rfl⟩
      by_cases t3 : (1048576 : Int) < L k
      · go_wp2
        go_ret
        exact ⟨someBool _, rfl⟩
      by_cases t4 : (1048576 : Int) < q + (Nm k).size + L k
      · go_wp2
        go_ret
        exact ⟨someBool _, rfl⟩
      go_wp2
      go_round
      case rel => exact ⟨k + 1, q + (Nm k).size + L k, by omega, by go_num, by omega, by omega, rfl⟩
      case measure => simp [intOf]; omega
    · by_cases t1 : (1048576 : Int) < newest.size
      · go_wp2
        go_ret
        exact ⟨someBool _, rfl⟩
      by_cases t2 : (1048576 : Int) < q + newest.size
      · go_wp2
        go_ret
        exact ⟨someBool _, rfl⟩
      go_wp2
      go_ret
      exact ⟨someBool _, rfl⟩

set_option maxHeartbeats 800000 in
theorem cloneNil (W : World) : Calls Try.prog 16 #[.slice none 0 0] W fun e w' => e = .returned (.slice none 0 0) ∧ w' = W := by
  have hnil := fun w => Lib.run_eql_slice_nil (P := Try.prog) w 26 24 none 0 0 0 0 Try.underlying26
  go_enter Try.func16, Try.ntmps16
  go_wp2
  go_ret
  exact ⟨rfl, rfl⟩

/-- 'zzCloneRVs', nil or not. -/
theorem clone_any (a : Option Addr) (n cap : Nat) (z : Nat → Int) (W : World) (h : U64 W a n z) (hnil : a = none → n = 0 ∧ cap = 0) (hn : n ≤ 1048576) :
    Calls Try.prog 16 #[.slice a n cap] W fun e w' => ∃ a', e = .returned (.slice a' n n) ∧ U64 w' a' n z ∧ Below W.heap.size W w' ∧ (∀ x, a' = some x → W.heap.size ≤ x.block) ∧ (a' = none → n = 0) := by
  cases a with
  | none =>
    obtain ⟨rfl, rfl⟩ := hnil rfl
    refine (cloneNil W).mono ?_
    rintro e w' ⟨rfl, rfl⟩
    exact ⟨none, rfl, fun i hi => absurd hi (by omega), Below.refl _ _, (fun x hx => by cases hx), fun _ => rfl⟩
  | some x =>
    refine (clone x n cap z W (fun i hi => by obtain ⟨y, hy, hc⟩ := h i hi; cases hy; exact hc) hn).mono ?_
    rintro e w' ⟨rfl, hr, hb, hs⟩
    refine ⟨some ⟨W.heap.size, 0, none⟩, rfl, fun i hi => ⟨_, rfl, ?_⟩, hb, fun y hy => by cases hy; exact Nat.le_refl _, fun h => by cases h⟩
    have := hr.cell hi
    by_cases h0 : i = 0
    · subst h0; exact this
    · simpa [Addr.add, h0] using this

set_option maxHeartbeats 400000 in
theorem weight18 (nm : ByteArray) (a : Option Addr) (n : Nat) (st y : Int) (byEv : Bool) (W : World) :
    Calls Try.prog 18 #[.agg #[.string nm, .slice a n n, .int .u64 st, .int .i64 y], .bool byEv] W fun e w' => e = .returned (.int .i64 (if byEv = true then (n : Int) else y)) ∧ Below W.heap.size W w' := by
  have hs28 := cells28
  cases byEv
  · go_enter Try.func18, Try.ntmps18
    go_wp2
    go_ret
    exact ⟨rfl, (Below.refl _ _).alloc (Nat.le_refl _) _⟩
  · go_enter Try.func18, Try.ntmps18
    go_wp2
    go_ret
    exact ⟨rfl, (Below.refl _ _).alloc (Nat.le_refl _) _⟩
end Go.Proofs.Qxb6601359a.Vic
