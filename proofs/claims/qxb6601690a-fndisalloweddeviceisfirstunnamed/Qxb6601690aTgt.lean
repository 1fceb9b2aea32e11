import Derived.Test.Qxb6601690aMem
import Derived.Deep.DeepCutAuto
import Derived.Deep.RegionHeld3
namespace Go.Proofs.Qxb6601690a.Tgt
open Go.ChangeShapes Go.WideShapes Go.ChangeAt Go.RowKit
open Go.Proofs.Qxb6601690a.Plain Go.Proofs.Qxb6601690a.Mem
set_option linter.unusedVariables false
set_option linter.unusedSimpArgs false

/-- A slice of targets at a, nil or not: each a pointer to an id, or nil, and a slice of bytes. -/
structure TP (W : World) (a : Option Addr) (n : Nat) (Pt : Nat → Option Addr) (Id : Nat → ByteArray) (F : Nat → Option Addr) (FL FC : Nat → Nat) : Prop where
  cs : ∀ i, i < n → ∃ x, a = some x ∧ W.cell? (x.add (i * 2)) = some (.pointer (Pt i)) ∧ W.cell? ⟨(x.add (i * 2)).block, (x.add (i * 2)).off + 1, none⟩ = some (.slice (F i) (FL i) (FC i))
  id : ∀ i, i < n → ∀ p, Pt i = some p → W.cell? p = some (.string (Id i))
theorem TP.below {W W' : World} {B : Nat} {a : Option Addr} {n : Nat} {Pt : Nat → Option Addr} {Id : Nat → ByteArray} {F : Nat → Option Addr} {FL FC : Nat → Nat} (h : TP W a n Pt Id F FL FC) (hb : Below B W W') (hB : W.heap.size ≤ B) : TP W' a n Pt Id F FL FC := by
  refine ⟨fun i hi => ?_, fun i hi p hp => ?_⟩
  · obtain ⟨x, hx, h0, h1⟩ := h.cs i hi
    exact ⟨x, hx, by rw [hb.cell (Nat.lt_of_lt_of_le (lt_of_cell h0) hB)]; exact h0, by rw [hb.cell (Nat.lt_of_lt_of_le (lt_of_cell h1) hB)]; exact h1⟩
  · have := h.id i hi p hp
    rw [hb.cell (Nat.lt_of_lt_of_le (lt_of_cell this) hB)]; exact this

theorem info41 : (Try.prog.info? 41).map (fun i => (i.zero, i.size, i.bytes)) = some (some (.agg #[.pointer none, .slice none 0 0]), 2, 32) := by kernel_rfl
theorem info39 : (Try.prog.info? 39).map (fun i => (i.zero, i.size, i.bytes)) = some (some (.agg #[.pointer none, .slice none 0 0]), 2, 32) := by kernel_rfl
theorem rowIs_made2 (w : World) (zs : Array Value) (n : Nat) (t : TypeId) (f : Nat → Value) (h : ∀ j, zs[j % zs.size]! = f j) :
    (w.alloc (.cells (madeCells zs n) t)).rowIs w.heap.size t n f :=
  ⟨_, Deep.blk_alloc_new _ _, size_madeCells _ _, fun i hi => by simp [madeCells, hi]; exact h i⟩

/-- The two cells of each target in a row of which k are filled. -/
def tc (Pt F : Nat → Option Addr) (FL : Nat → Nat) (k j : Nat) : Value :=
  if j / 2 < k then (if j % 2 = 0 then .pointer (Pt (j / 2)) else .slice (F (j / 2)) (FL (j / 2)) (FL (j / 2))) else if j % 2 = 0 then .pointer none else .slice none 0 0
theorem tc_zero (Pt F : Nat → Option Addr) (FL : Nat → Nat) (j : Nat) : (#[Value.pointer none, .slice none 0 0] : Array Value)[j % (#[Value.pointer none, .slice none 0 0] : Array Value).size]! = tc Pt F FL 0 j := by
  have e : (#[Value.pointer none, .slice none 0 0] : Array Value).size = 2 := rfl
  rw [e]
  unfold tc
  have h2 : j % 2 < 2 := Nat.mod_lt _ (by omega)
  rw [if_neg (by omega)]
  generalize j % 2 = m at h2
  have : m = 0 ∨ m = 1 := by omega
  rcases this with rfl | rfl <;> simp
theorem tc_store {w1 : World} {b : Nat} {t : TypeId} (n : Nat) (Pt F : Nat → Option Addr) (FL : Nat → Nat) (k : Nat) (p f : Option Addr) (h : w1.rowIs b t (n * 2) (tc Pt F FL k)) :
    ((w1.setCell ⟨b, k * 2, none⟩ (.pointer p)).setCell ⟨b, k * 2 + 1, none⟩ (.slice f (FL k) (FL k))).rowIs b t (n * 2) (tc (fun j => if j = k then p else Pt j) (fun j => if j = k then f else F j) FL (k + 1)) := by
  refine ((h.set _ _).set _ _).congr fun j hj => ?_
  by_cases e1 : j = k * 2 + 1
  · rw [if_pos e1, e1]; unfold tc; rw [if_pos (by omega), if_neg (by omega), show (k * 2 + 1) / 2 = k from by omega]; simp only [if_true]
  rw [if_neg e1]
  by_cases e0 : j = k * 2
  · rw [if_pos e0, e0]; unfold tc; rw [if_pos (by omega), if_pos (by omega), show k * 2 / 2 = k from by omega]; simp only [if_true]
  rw [if_neg e0]
  unfold tc
  have hne : ¬ j / 2 = k := by omega
  by_cases hlt : j / 2 < k
  · rw [if_pos hlt, if_pos (show j / 2 < k + 1 by omega)]
    simp only [if_neg hne]
  · rw [if_neg hlt, if_neg (show ¬ j / 2 < k + 1 by omega)]
/-- A full row is a slice of targets. -/
theorem tp_row {w : World} {b : Nat} {t : TypeId} (n : Nat) (Pt F : Nat → Option Addr) (FL : Nat → Nat) (Id : Nat → ByteArray) (h : w.rowIs b t (n * 2) (tc Pt F FL n)) (hid : ∀ i, i < n → ∀ p, Pt i = some p → w.cell? p = some (.string (Id i))) : TP w (some ⟨b, 0, none⟩) n Pt Id F FL FL := by
  refine ⟨fun i hi => ⟨_, rfl, ?_⟩, hid⟩
  have e : (⟨b, 0, none⟩ : Addr).add (i * 2) = ⟨b, i * 2, none⟩ := by
    unfold Addr.add
    by_cases h0 : i * 2 = 0
    · rw [if_pos h0, h0]
    · rw [if_neg h0]; simp
  rw [e]
  refine ⟨?_, ?_⟩
  · rw [h.cell (by omega)]; unfold tc; rw [if_pos (by omega), if_pos (by omega), show i * 2 / 2 = i from by omega]
  · show w.cell? ⟨b, i * 2 + 1, none⟩ = _
    rw [h.cell (by omega)]; unfold tc; rw [if_pos (by omega), if_neg (by omega), show (i * 2 + 1) / 2 = i from by omega]

set_option maxHeartbeats 800000 in
theorem copyTargetsNil (W : World) : Calls Try.prog 9 #[.slice none 0 0] W fun e w' => e = .returned (.slice none 0 0) ∧ w' = W := by
  have hnil := fun w => Lib.run_eql_slice_nil (P := Try.prog) w 24 41 none 0 0 0 0 Try.underlying24
  go_enter Try.func9, Try.ntmps9
  go_wp2
  go_ret
  exact ⟨rfl, rfl⟩

/-- while 'copyTargets' fills its row: k are in -/
structure CInv (W : World) (n : Nat) (Pt : Nat → Option Addr) (Id : Nat → ByteArray) (FL : Nat → Nat) (k : Nat) (Pt' F' : Nat → Option Addr) (wr : World) : Prop where
  row : wr.rowIs W.heap.size 41 (n * 2) (tc Pt' F' FL k)
  id : ∀ i, i < k → ∀ p, Pt' i = some p → wr.cell? p = some (.string (Id i)) ∧ W.heap.size < p.block
  same : ∀ i, i < k → (Pt' i).isSome = (Pt i).isSome
  below : Below W.heap.size W wr

set_option maxHeartbeats 1600000 in
theorem copyTargetsSome (x : Addr) (n cap : Nat) (Pt : Nat → Option Addr) (Id : Nat → ByteArray) (F : Nat → Option Addr) (FL FC : Nat → Nat) (W : World) (h : TP W (some x) n Pt Id F FL FC) (hu : ∀ i, i < n → U8 W (F i) (FL i)) (hnl : ∀ i, i < n → F i = none → FL i = 0 ∧ FC i = 0) (hl : ∀ i, i < n → FL i ≤ 1048576) (hn : n ≤ 1048576) :
    Calls Try.prog 9 #[.slice (some x) n cap] W fun e w' => ∃ Pt' F' : Nat → Option Addr, e = .returned (.slice (some ⟨W.heap.size, 0, none⟩) n n) ∧ CInv W n Pt Id FL n Pt' F' w' := by
  have hmk : ∀ w : World, (Instr.makeSlice 24 (.int .i64 (n : Int)) (.int .i64 (n : Int))).run Try.prog w = .ok (.slice (some ⟨w.heap.size, 0, none⟩) n n) (w.alloc (.cells (madeCells #[.pointer none, .slice none 0 0] (n * 2)) 41)) := by
    intro w
    obtain ⟨i, hi, hzz⟩ := Option.map_eq_some_iff.1 info41
    simp only [Prod.mk.injEq] at hzz
    obtain ⟨hz, hs, hb⟩ := hzz
    have := run_make (P := Try.prog) w 24 41 i _ Try.underlying24 hi hz .i64 .i64 n n (by omega) (by omega) (by rw [hb]; omega) (by omega)
    rw [hs, show (Value.agg #[.pointer none, .slice none 0 0]).cells = #[.pointer none, .slice none 0 0] from by simp [Value.cells]] at this
    simpa using this
  have hnil := fun w => Lib.run_eql_slice_nil (P := Try.prog) w 24 41 (some x) n cap 0 0 Try.underlying24
  have hs41 := cells41
  have HU : Hid (∀ i, i < n → U8 W (F i) (FL i)) := hu
  have HNL : Hid (∀ i, i < n → F i = none → FL i = 0 ∧ FC i = 0) := hnl
  have HL : Hid (∀ i, i < n → FL i ≤ 1048576) := hl
  clear hu hnl hl
  go_enter Try.func9, Try.ntmps9
  go_wp2
  clear hmk hnil
  go_loopw [4, 5] (fun i _ wr => ∃ (k : Nat) (Pt' F' : Nat → Option Addr), k ≤ n ∧ i = .int .i64 k ∧ CInv W n Pt Id FL k Pt' F' wr) (fun i _ _ => n - (intOf i).toNat)
  case atStart => exact ⟨0, fun _ => none, fun _ => none, Nat.zero_le _, rfl, ⟨rowIs_made2 _ _ _ _ _ fun j => tc_zero _ _ FL j, fun i hi => absurd hi (by omega), fun i hi => absurd hi (by omega), (Below.refl _ _).alloc (Nat.le_refl _) _⟩⟩
  case round =>
    obtain ⟨k, Pt', F', hk, rfl, hI⟩ := hrel
    by_cases hlt : k < n
    · obtain ⟨x', hx', d0, d1⟩ := h.cs k hlt
      cases hx'
      have e0 : wr.cell? (x.add (k * 2)) = some (.pointer (Pt k)) := by rw [hI.below.cell (lt_of_cell d0)]; exact d0
      have e1 : wr.cell? ⟨(x.add (k * 2)).block, (x.add (k * 2)).off + 1, none⟩ = some (.slice (F k) (FL k) (FC k)) := by rw [hI.below.cell (lt_of_cell d1)]; exact d1
      clear d0 d1
      have HUk : Hid (U8 wr (F k) (FL k)) := (HU.out k hlt).below hI.below (Nat.le_refl _)
      have hFk := HL.out k hlt
      have hb0 : W.heap.size < wr.heap.size := hI.row.lt
      go_upto_if 22 with fail
      go_cut [5] (fun v wx => ∃ p' : Option Addr, v = .pointer p' ∧ p'.isSome = (Pt k).isSome ∧ Hid (∀ q, p' = some q → wx.cell? q = some (.string (Id k)) ∧ W.heap.size < q.block) ∧ CInv W n Pt Id FL k Pt' F' wx ∧ Below wr.heap.size wr wx)
      case first =>
        cases hp : Pt k with
        | none =>
          rw [hp] at e0
          go_wp2_with fail
          go_meet
          case rel => exact ⟨none, rfl, by rw [hp], (fun q hq => (by cases hq) : ∀ q, (none : Option Addr) = some q → wr.cell? q = some (.string (Id k)) ∧ W.heap.size < q.block), hI, Below.refl _ _⟩
        | some p =>
          rw [hp] at e0
          have hid : wr.cell? p = some (.string (Id k)) := by rw [hI.below.cell (lt_of_cell (h.id k hlt p hp))]; exact h.id k hlt p hp
          have a0 : ∀ o, (wr.alloc o).cell? (x.add (k * 2)) = some (.pointer (some p)) := fun o => by rw [World.cell?_alloc_lt _ _ _ (lt_of_cell e0)]; exact e0
          have a1 : ∀ o, (wr.alloc o).cell? p = some (.string (Id k)) := fun o => by rw [World.cell?_alloc_lt _ _ _ (lt_of_cell hid)]; exact hid
          go_wp2_with fail
          go_meet
          case rel =>
            refine ⟨some ⟨wr.heap.size, 0, none⟩, rfl, by rw [hp]; rfl, (fun q hq => by cases hq; exact ⟨by simp [go_sem], hb0⟩), ?_, (Below.refl _ _).alloc (Nat.le_refl _) _⟩
            exact ⟨hI.row.alloc _, fun i hi q hq => ⟨by rw [World.cell?_alloc_lt _ _ _ (lt_of_cell (hI.id i hi q hq).1)]; exact (hI.id i hi q hq).1, (hI.id i hi q hq).2⟩, hI.same, hI.below.alloc (by omega) _⟩
      case rest =>
        obtain ⟨p', rfl, hps, HPQ, hI1, hB1⟩ := hcut
        generalize wc = V1 at *
        have e2 : V1.cell? ⟨(x.add (k * 2)).block, (x.add (k * 2)).off + 1, none⟩ = some (.slice (F k) (FL k) (FC k)) := by rw [hB1.cell (lt_of_cell e1)]; exact e1
        have HC := copyBytes (F k) (FL k) (FC k) V1 (HUk.out.below hB1 (Nat.le_refl _)) (HNL.out k hlt) hFk
        have HCC : Hid (Calls _ _ _ _ _) := HC
        clear HC e0 e1
        go_wp2_with fail
        refine HCC.out.mono ?_
        rintro e V2 ⟨f', rfl, hB2⟩
        have hI2 : CInv W n Pt Id FL k Pt' F' V2 := ⟨hI1.row.of_block (hB2.block _ hI1.row.lt), fun i hi q hq => ⟨by rw [hB2.cell (lt_of_cell (hI1.id i hi q hq).1)]; exact (hI1.id i hi q hq).1, (hI1.id i hi q hq).2⟩, hI1.same, hI1.below.trans (hB2.mono (Nat.le_trans (Nat.le_of_lt hb0) hB1.size))⟩
        have HP2 : Hid (∀ q, p' = some q → V2.cell? q = some (.string (Id k)) ∧ W.heap.size < q.block) := fun q hq => ⟨by rw [hB2.cell (lt_of_cell (HPQ.out q hq).1)]; exact (HPQ.out q hq).1, (HPQ.out q hq).2⟩
        have HPS : Hid (p'.isSome = (Pt k).isSome) := hps
        have r0 := hI2.row.cell (i := k * 2) (by omega)
        have r1 := (hI2.row.set (k * 2) (.pointer p')).cell (i := k * 2 + 1) (by omega)
        have z0 := hI2.row.frozen (k * 2)
        have z1 := (hI2.row.set (k * 2) (.pointer p')).frozen (k * 2 + 1)
        clear hI1 hB2 HPQ hps HCC hB1 e2
        go_wp2_with fail
        go_roundw
        case rel => 
          refine ⟨k + 1, _, _, by omega, by go_num, ⟨tc_store n Pt' F' FL k p' f' hI2.row, fun i hi q hq => ?_, fun i hi => ?_, (hI2.below.setCell (Nat.le_refl _) _).setCell (Nat.le_refl _) _⟩⟩
          · have key : ∀ q : Addr, W.heap.size < q.block → ((V2.setCell ⟨W.heap.size, k * 2, none⟩ (.pointer p')).setCell ⟨W.heap.size, k * 2 + 1, none⟩ (.slice f' (FL k) (FL k))).cell? q = V2.cell? q := fun q hq =>
              World.cell?_of_block (w := V2) ((Below.heap_setCell _ ⟨W.heap.size, k * 2 + 1, none⟩ _ q.block (by show q.block ≠ W.heap.size; omega)).trans (Below.heap_setCell _ ⟨W.heap.size, k * 2, none⟩ _ q.block (by show q.block ≠ W.heap.size; omega)))
            by_cases ei : i = k
            · subst ei
              simp only [if_true] at hq
              obtain ⟨h1, h2⟩ := HP2.out q hq
              exact ⟨by rw [key q h2]; exact h1, h2⟩
            · simp only [if_neg ei] at hq
              obtain ⟨h1, h2⟩ := hI2.id i (by omega) q hq
              exact ⟨by rw [key q h2]; exact h1, h2⟩
          · by_cases ei : i = k
            · subst ei; simp only [if_true]; exact HPS.out
            · simp only [if_neg ei]; exact hI2.same i (by omega)
        case measure => simp [intOf]; omega
    · have ekn : n = k := by omega
      subst ekn
      go_wp2
      go_ret
      exact ⟨Pt', F', rfl, hI⟩

/-- 'copyTargets', nil or not. -/
theorem copyTargets (a : Option Addr) (n cap : Nat) (Pt : Nat → Option Addr) (Id : Nat → ByteArray) (F : Nat → Option Addr) (FL FC : Nat → Nat) (W : World) (h : TP W a n Pt Id F FL FC) (hu : ∀ i, i < n → U8 W (F i) (FL i)) (hnl : ∀ i, i < n → F i = none → FL i = 0 ∧ FC i = 0) (hl : ∀ i, i < n → FL i ≤ 1048576) (hn : n ≤ 1048576) (hnil : a = none → n = 0 ∧ cap = 0) :
    Calls Try.prog 9 #[.slice a n cap] W fun e w' => ∃ (a' : Option Addr) (Pt' F' : Nat → Option Addr), e = .returned (.slice a' n n) ∧ TP w' a' n Pt' Id F' FL FL ∧ (∀ i, i < n → (Pt' i).isSome = (Pt i).isSome) ∧ a'.isNone = a.isNone ∧ Below W.heap.size W w' := by
  cases a with
  | none =>
    obtain ⟨rfl, rfl⟩ := hnil rfl
    exact (copyTargetsNil W).mono fun e w' ⟨h1, h2⟩ => ⟨none, fun _ => none, fun _ => none, h1, ⟨fun i hi => absurd hi (by omega), fun i hi => absurd hi (by omega)⟩, fun i hi => absurd hi (by omega), rfl, by rw [h2]; exact Below.refl _ _⟩
  | some x =>
    exact (copyTargetsSome x n cap Pt Id F FL FC W h hu hnl hl hn).mono fun e w' ⟨Pt', F', h1, h2⟩ => ⟨_, Pt', F', h1, tp_row n Pt' F' FL Id h2.row (fun i hi p hp => (h2.id i hi p hp).1), h2.same, rfl, h2.below⟩

theorem cells32 : Try.prog.cellsOf 32 = 4 := by kernel_rfl
theorem cells39 : Try.prog.cellsOf 39 = 2 := by kernel_rfl

set_option maxHeartbeats 1600000 in
theorem toAuthNil (s : ByteArray) (va vo : Value) (W : World) (hva : ∃ a n c, va = .slice a n c) (hvo : ∃ a n c, vo = .slice a n c) :
    Calls Try.prog 10 #[.string s, va, vo, .slice none 0 0] W fun e w' => e = .returned (.agg #[.string s, va, vo, .slice none 0 0]) ∧ Below W.heap.size W w' := by
  obtain ⟨a1, n1, c1, rfl⟩ := hva
  obtain ⟨a2, n2, c2, rfl⟩ := hvo
  have hnn : ∀ w, (binOp .neq 24 (.slice none 0 0) (.slice none 0 0)).run Try.prog w = .ok (.bool false) w := by
    intro w
    simp only [binOp]
    simp [Op.equal, Op.maxDepth, Lib.run_equalIn_slice_nil w 9999 24 41 none 0 0 0 0 Try.underlying24]
  have hs32 := cells32
  go_enter Try.func10, Try.ntmps10
  go_wp2
  refine wp_loop_rounds 1 ?_
  rw [rounds_succ]
  go_wp2
  exact bodyPost_ret (v := .agg #[.string s, .slice a1 n1 c1, .slice a2 n2 c2, .slice none 0 0]) (by simp [results, Try.results10, go_sem]) rfl ⟨rfl, (Below.refl _ _).alloc (Nat.le_refl _) _⟩

/-- while 'toAuthorization' fills its row: k are in -/
structure AInv (W : World) (n : Nat) (Pt F : Nat → Option Addr) (FL : Nat → Nat) (k : Nat) (wr : World) : Prop where
  row : wr.rowIs (W.heap.size + 1) 39 (n * 2) (tc Pt F FL k)
  res : ∃ f, wr.rowIs W.heap.size 32 4 f
  below : Below W.heap.size W wr
theorem tc_store_same {w1 : World} {b : Nat} {t : TypeId} (n : Nat) (Pt F : Nat → Option Addr) (FL : Nat → Nat) (k : Nat) (h : w1.rowIs b t (n * 2) (tc Pt F FL k)) :
    ((w1.setCell ⟨b, k * 2, none⟩ (.pointer (Pt k))).setCell ⟨b, k * 2 + 1, none⟩ (.slice (F k) (FL k) (FL k))).rowIs b t (n * 2) (tc Pt F FL (k + 1)) := by
  have := tc_store n Pt F FL k (Pt k) (F k) h
  have e1 : (fun j => if j = k then Pt k else Pt j) = Pt := by funext j; by_cases e : j = k <;> simp [e]
  have e2 : (fun j => if j = k then F k else F j) = F := by funext j; by_cases e : j = k <;> simp [e]
  rwa [e1, e2] at this
theorem ainv_next (W : World) (n : Nat) (Pt F : Nat → Option Addr) (FL : Nat → Nat) (k : Nat) (wr : World) (h : AInv W n Pt F FL k wr) :
    AInv W n Pt F FL (k + 1) ((wr.setCell ⟨W.heap.size + 1, k * 2, none⟩ (.pointer (Pt k))).setCell ⟨W.heap.size + 1, k * 2 + 1, none⟩ (.slice (F k) (FL k) (FL k))).drew := by
  obtain ⟨f, hf⟩ := h.res
  exact ⟨(tc_store_same n Pt F FL k h.row).drew, ⟨f, ((hf.setOther (by show W.heap.size ≠ W.heap.size + 1; omega) _).setOther (by show W.heap.size ≠ W.heap.size + 1; omega) _).drew⟩, ((h.below.setCell (by show W.heap.size ≤ W.heap.size + 1; omega) _).setCell (by show W.heap.size ≤ W.heap.size + 1; omega) _).drew⟩

theorem stores4 {w : World} {b : Nat} {t : TypeId} {f : Nat → Value} (h : w.rowIs b t 4 f) (v0 v1 v2 v3 : Value) :
  ∃ c0 c1 c2 c3, w.cell? ⟨b, 0, none⟩ = some c0 ∧ w.frozen? ⟨b, 0, none⟩ = false ∧
    (w.setCell ⟨b, 0, none⟩ v0).cell? ⟨b, 1, none⟩ = some c1 ∧ (w.setCell ⟨b, 0, none⟩ v0).frozen? ⟨b, 1, none⟩ = false ∧
    ((w.setCell ⟨b, 0, none⟩ v0).setCell ⟨b, 1, none⟩ v1).cell? ⟨b, 2, none⟩ = some c2 ∧ ((w.setCell ⟨b, 0, none⟩ v0).setCell ⟨b, 1, none⟩ v1).frozen? ⟨b, 2, none⟩ = false ∧
    (((w.setCell ⟨b, 0, none⟩ v0).setCell ⟨b, 1, none⟩ v1).setCell ⟨b, 2, none⟩ v2).cell? ⟨b, 3, none⟩ = some c3 ∧ (((w.setCell ⟨b, 0, none⟩ v0).setCell ⟨b, 1, none⟩ v1).setCell ⟨b, 2, none⟩ v2).frozen? ⟨b, 3, none⟩ = false := by
  have h1 := h.set 0 v0
  have h2 := h1.set 1 v1
  have h3 := h2.set 2 v2
  exact ⟨_, _, _, _, h.cell (i := 0) (by omega), h.frozen _, h1.cell (i := 1) (by omega), h1.frozen _, h2.cell (i := 2) (by omega), h2.frozen _, h3.cell (i := 3) (by omega), h3.frozen _⟩

set_option maxHeartbeats 1600000 in
theorem toAuthSome (s : ByteArray) (va vo : Value) (x : Addr) (n : Nat) (Pt : Nat → Option Addr) (Id : Nat → ByteArray) (F : Nat → Option Addr) (FL : Nat → Nat) (W : World) (h : TP W (some x) n Pt Id F FL FL) (hn : n ≤ 1048576) (hva : ∃ a n c, va = .slice a n c) (hvo : ∃ a n c, vo = .slice a n c) :
    Calls Try.prog 10 #[.string s, va, vo, .slice (some x) n n] W fun e w' => e = .returned (.agg #[.string s, va, vo, .slice (some ⟨W.heap.size + 1, 0, none⟩) n n]) ∧ w'.rowIs (W.heap.size + 1) 39 (n * 2) (tc Pt F FL n) ∧ Below W.heap.size W w' := by
  obtain ⟨a1, n1, c1, rfl⟩ := hva
  obtain ⟨a2, n2, c2, rfl⟩ := hvo
  have hnn : ∀ w, (binOp .neq 24 (.slice (some x) n n) (.slice none 0 0)).run Try.prog w = .ok (.bool true) w := by
    intro w
    simp only [binOp]
    simp [Op.equal, Op.maxDepth, Lib.run_equalIn_slice_nil w 9999 24 41 (some x) n n 0 0 Try.underlying24]
  have hmk : ∀ w : World, (Instr.makeSlice 30 (.int .i64 (n : Int)) (.int .i64 (n : Int))).run Try.prog w = .ok (.slice (some ⟨w.heap.size, 0, none⟩) n n) (w.alloc (.cells (madeCells #[.pointer none, .slice none 0 0] (n * 2)) 39)) := by
    intro w
    obtain ⟨i, hi, hzz⟩ := Option.map_eq_some_iff.1 info39
    simp only [Prod.mk.injEq] at hzz
    obtain ⟨hz, hs, hb⟩ := hzz
    have := run_make (P := Try.prog) w 30 39 i _ Try.underlying30 hi hz .i64 .i64 n n (by omega) (by omega) (by rw [hb]; omega) (by omega)
    rw [hs, show (Value.agg #[.pointer none, .slice none 0 0]).cells = #[.pointer none, .slice none 0 0] from by simp [Value.cells]] at this
    simpa using this
  have hs32 := cells32
  have hs39 := cells39
  have hs41 := cells41
  go_enter Try.func10, Try.ntmps10
  go_wp2
  clear hmk hnn
  go_loopw [10] (fun i wr => ∃ k : Nat, k ≤ n ∧ i = .int .i64 k ∧ AInv W n Pt F FL k wr) (fun i _ => n - (intOf i).toNat)
  case atStart =>
    refine ⟨0, Nat.zero_le _, rfl, ⟨?_, ⟨_, (World.rowIs_alloc W _ 32 (fun i => (#[Value.string ByteArray.empty, .slice none 0 0, .slice none 0 0, .slice none 0 0] : Array Value)[i]!) (fun i hi => ?_)).alloc _⟩, ((Below.refl _ _).alloc (Nat.le_refl _) _).alloc (by simp) _⟩⟩
    · have := rowIs_made2 (W.alloc (.cells #[.string ByteArray.empty, .slice none 0 0, .slice none 0 0, .slice none 0 0] 32)) #[.pointer none, .slice none 0 0] (n * 2) 39 (tc Pt F FL 0) (fun j => tc_zero Pt F FL j)
      rw [show (W.alloc (.cells #[.string ByteArray.empty, .slice none 0 0, .slice none 0 0, .slice none 0 0] 32)).heap.size = W.heap.size + 1 from by simp] at this
      exact this
    · have : i = 0 ∨ i = 1 ∨ i = 2 ∨ i = 3 := by simp at hi; omega
      rcases this with rfl | rfl | rfl | rfl <;> rfl
  case round =>
    obtain ⟨k, hk, rfl, hI⟩ := hrel
    by_cases hlt : k < n
    · obtain ⟨x', hx', d0, d1⟩ := h.cs k hlt
      cases hx'
      have e0 : wr.cell? (x.add (k * 2)) = some (.pointer (Pt k)) := by rw [hI.below.cell (lt_of_cell d0)]; exact d0
      have e1 : wr.cell? ⟨(x.add (k * 2)).block, (x.add (k * 2)).off + 1, none⟩ = some (.slice (F k) (FL k) (FL k)) := by rw [hI.below.cell (lt_of_cell d1)]; exact d1
      have hxb : (x.add (k * 2)).block < W.heap.size := lt_of_cell d0
      have r0 := hI.row.cell (i := k * 2) (by omega)
      have r1 := (hI.row.set (k * 2) (.pointer (Pt k))).cell (i := k * 2 + 1) (by omega)
      have z0 := hI.row.frozen (k * 2)
      have z1 := (hI.row.set (k * 2) (.pointer (Pt k))).frozen (k * 2 + 1)
      have m0 : ((wr.setCell ⟨W.heap.size + 1, k * 2, none⟩ (.pointer (Pt k))).setCell ⟨W.heap.size + 1, k * 2 + 1, none⟩ (.slice (F k) (FL k) (FL k))).cell? (x.add (k * 2)) = some (.pointer (Pt k)) :=
        (World.cell?_of_block (w := wr) ((Below.heap_setCell _ ⟨W.heap.size + 1, k * 2 + 1, none⟩ _ (x.add (k * 2)).block (by show _ ≠ W.heap.size + 1; omega)).trans (Below.heap_setCell _ ⟨W.heap.size + 1, k * 2, none⟩ _ (x.add (k * 2)).block (by show _ ≠ W.heap.size + 1; omega)))).trans e0
      have m1 : ((wr.setCell ⟨W.heap.size + 1, k * 2, none⟩ (.pointer (Pt k))).setCell ⟨W.heap.size + 1, k * 2 + 1, none⟩ (.slice (F k) (FL k) (FL k))).cell? ⟨(x.add (k * 2)).block, (x.add (k * 2)).off + 1, none⟩ = some (.slice (F k) (FL k) (FL k)) :=
        (World.cell?_of_block (w := wr) (a := ⟨(x.add (k * 2)).block, (x.add (k * 2)).off + 1, none⟩) ((Below.heap_setCell _ ⟨W.heap.size + 1, k * 2 + 1, none⟩ _ (x.add (k * 2)).block (by show _ ≠ W.heap.size + 1; omega)).trans (Below.heap_setCell _ ⟨W.heap.size + 1, k * 2, none⟩ _ (x.add (k * 2)).block (by show _ ≠ W.heap.size + 1; omega)))).trans e1
      have hN := ainv_next W n Pt F FL k wr hI
      clear d0 d1 hxb
      go_wp2_with fail
      go_region_held3 (fun w' => w'.cell? (x.add (k * 2)) = some (.pointer (Pt k)) ∧ w'.cell? ⟨(x.add (k * 2)).block, (x.add (k * 2)).off + 1, none⟩ = some (.slice (F k) (FL k) (FL k))) (go_keep) (fail)
      go_wp2_with fail
      go_roundw
      case rel => exact ⟨k + 1, by omega, by go_num, hN⟩
      case measure => simp [intOf]; omega
    · have ekn : n = k := by omega
      subst ekn
      obtain ⟨f, hf⟩ := hI.res
      obtain ⟨q0, q1, q2, q3, g0, g1, g2, g3, g4, g5, g6, g7⟩ := stores4 hf (.string s) (.slice a1 n1 c1) (.slice a2 n2 c2) (.slice (some ⟨W.heap.size + 1, 0, none⟩) n n)
      have hB : Hid (Below W.heap.size W wr) := hI.below
      have l0 := (((hf.set 0 (.string s)).set 1 (.slice a1 n1 c1)).set 2 (.slice a2 n2 c2)).set 3 (.slice (some ⟨W.heap.size + 1, 0, none⟩) n n)
      have l1 : _ = _ := l0.cell (i := 0) (by omega)
      have l2 : _ = _ := l0.cell (i := 1) (by omega)
      have l3 : _ = _ := l0.cell (i := 2) (by omega)
      have l4 : _ = _ := l0.cell (i := 3) (by omega)
      simp at l1 l2 l3 l4
      go_wp2
      refine bodyPost_ret (v := .agg #[.string s, .slice a1 n1 c1, .slice a2 n2 c2, .slice (some ⟨W.heap.size + 1, 0, none⟩) n n]) (by simp [results, Try.results10, go_sem, l1, l2, l3, l4]) rfl ⟨rfl, ?_, ?_⟩
      · exact (((hI.row.setOther (by show W.heap.size + 1 ≠ W.heap.size; omega) _).setOther (by show W.heap.size + 1 ≠ W.heap.size; omega) _).setOther (by show W.heap.size + 1 ≠ W.heap.size; omega) _).setOther (by show W.heap.size + 1 ≠ W.heap.size; omega) _
      · exact (((hB.out.setCell (Nat.le_refl _) _).setCell (Nat.le_refl _) _).setCell (Nat.le_refl _) _).setCell (Nat.le_refl _) _
end Go.Proofs.Qxb6601690a.Tgt
