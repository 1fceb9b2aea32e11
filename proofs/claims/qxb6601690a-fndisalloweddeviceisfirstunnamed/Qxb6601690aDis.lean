import Derived.Test.Qxb6601690aTgt
import Derived.Maps.OwnSet
namespace Go.Proofs.Qxb6601690a.Dis
open Go.ChangeShapes Go.WideShapes Go.ChangeAt Go.RowKit Go.Maps
open Go.Proofs.Qxb6601690a.Plain Go.Proofs.Qxb6601690a.Mem Go.Proofs.Qxb6601690a.Tgt
set_option linter.unusedVariables false
set_option linter.unusedSimpArgs false

/-- Which entries have an id; the ids' bytes. -/
def ptB (Pt : Nat → Option Addr) (i : Nat) : Bool := (Pt i).isSome
def idL (Id : Nat → ByteArray) (i : Nat) : List UInt8 := (Id i).data.toList
/-- What both functions answer: the place of the first device that no entry names; none. -/
def resV (Dv : Nat → ByteArray) : Option Nat → Value
  | none => .tuple #[.string ByteArray.empty, .bool false]
  | some k => .tuple #[.string (Dv k), .bool true]

theorem law9 : Keyed Try.prog 9 := string_keyed Try.underlying9
theorem zero4 (w : World) : (zeroValue 4).run Try.prog w = .ok (.bool false) w := by kernel_rfl
theorem run_makeMap_hint (n : Int) (w : World) : (Instr.makeMap 42 (some (.int .i64 n))).run Try.prog w = .ok (.map (some w.heap.size)) (w.alloc (.map #[] 0)) := by
  simp [Instr.makeMap, run_underlying Try.underlying42, asInt, asIntOf, Result.andThen]
theorem bool_inv (v : Value) (b : Bool) (ps : List MemPlace) (h : plainElem (H := Unit) Try.prog 4 v = some (.lit (.bool b), ps)) : v = .bool b := by
  unfold plainElem at h
  rw [Try.underlying4] at h
  cases v <;> simp at h
  rw [h.1]
theorem bytes_beq (a b : ByteArray) : (a.toList == b.toList) = decide (a.data.toList = b.data.toList) := by
  rw [ByteArray.toList_eq, ByteArray.toList_eq, Bool.eq_iff_iff, beq_iff_eq, decide_eq_true_eq]

/-- What the map says once k entries are in. -/
def DInv (Pt : Nat → Option Addr) (Id : Nat → ByteArray) (k : Nat) (D : DataW Unit) : Prop := ∀ l, D.atKey (.string l) (.lit (.bool false)) = .lit (.bool (named k (ptB Pt) (idL Id) l))
theorem dinv_start (Pt : Nat → Option Addr) (Id : Nat → ByteArray) : DInv Pt Id 0 (.map []) := fun l => atKey_of_not_has (by simp [Maps.has_eq]) _
theorem dinv_skip (Pt : Nat → Option Addr) (Id : Nat → ByteArray) (k : Nat) (D : DataW Unit) (h : DInv Pt Id k D) (hp : Pt k = none) : DInv Pt Id (k + 1) D := by
  intro l
  rw [h l, named_succ]
  simp [ptB, hp]
theorem dinv_put (Pt : Nat → Option Addr) (Id : Nat → ByteArray) (k : Nat) (D : DataW Unit) (hm : IsMap D) (h : DInv Pt Id k D) (hp : (Pt k).isSome = true) : DInv Pt Id (k + 1) (D.put (.string (Id k).data.toList) (.lit (.bool true))) := by
  intro l
  rw [named_succ]
  by_cases e : l = (Id k).data.toList
  · subst e
    rw [atKey_put_same hm (show WideAt.IsKeyLit (.string _) from trivial)]
    simp [ptB, hp, idL]
  · rw [atKey_put_other (by intro e'; injection e' with e'; exact e e'), h l]
    have : decide (idL Id k = l) = false := decide_eq_false (by intro e'; exact e e'.symm)
    rw [this]; simp

/-- the memory while the map is filled -/
structure MInv (W : World) (Pt : Nat → Option Addr) (Id : Nat → ByteArray) (n k : Nat) (mb : Nat) (wr : World) : Prop where
  map : ∃ D : DataW Unit, wr.ownsMap Try.prog 9 (plainElem Try.prog 4) mb k D ∧ DInv Pt Id k D
  lo : W.heap.size ≤ mb
  below : Below W.heap.size W wr

set_option maxHeartbeats 1600000 in
theorem disNil (s : ByteArray) (a1 : Option Addr) (n1 c1 : Nat) (a2 : Option Addr) (n2 c2 : Nat) (ad : Option Addr) (m cd : Nat) (W : World) (Dv : Nat → ByteArray) :
    Calls Try.prog 11 #[.agg #[.string s, .slice a1 n1 c1, .slice a2 n2 c2, .slice none 0 0], .slice ad m cd] W fun e w' => e = .returned (resV Dv none) ∧ Below W.heap.size W w' := by
  have hs32 := cells32
  have hnil := fun w => Lib.run_eql_slice_nil (P := Try.prog) w 30 39 none 0 0 0 0 Try.underlying30
  go_enter Try.func11, Try.ntmps11
  go_wp2
  go_ret2
  exact ⟨rfl, (Below.refl _ _).alloc (Nat.le_refl _) _⟩

set_option maxHeartbeats 1600000 in
theorem disSome (s : ByteArray) (a1 : Option Addr) (n1 c1 : Nat) (a2 : Option Addr) (n2 c2 : Nat) (b n : Nat) (Pt F : Nat → Option Addr) (FL : Nat → Nat) (Id : Nat → ByteArray) (ad : Option Addr) (m cd : Nat) (Dv : Nat → ByteArray) (W : World)
    (hrow : W.rowIs b 39 (n * 2) (tc Pt F FL n)) (hid : ∀ i, i < n → ∀ p, Pt i = some p → W.cell? p = some (.string (Id i)) ∧ (Id i).size ≤ maxLen) (hd : Strs W ad m Dv) (hds : ∀ i, i < m → (Dv i).size ≤ maxLen) (hn : n ≤ 1048576) (hm : m ≤ 1048576) :
    Calls Try.prog 11 #[.agg #[.string s, .slice a1 n1 c1, .slice a2 n2 c2, .slice (some ⟨b, 0, none⟩) n n], .slice ad m cd] W fun e w' => (∃ o, First (fun k => named n (ptB Pt) (idL Id) (Dv k).data.toList) m o ∧ e = .returned (resV Dv o)) ∧ Below W.heap.size W w' := by
  have hs32 := cells32
  have hs39 := cells39
  have hmm := run_makeMap_hint
  have hnil := fun w => Lib.run_eql_slice_nil (P := Try.prog) w 30 39 (some ⟨b, 0, none⟩) n n 0 0 Try.underlying30
  have HROW : Hid (W.rowIs b 39 (n * 2) (tc Pt F FL n)) := hrow
  have HID : Hid (∀ i, i < n → ∀ p, Pt i = some p → W.cell? p = some (.string (Id i)) ∧ (Id i).size ≤ maxLen) := hid
  have HD : Hid (Strs W ad m Dv) := hd
  have HDS : Hid (∀ i, i < m → (Dv i).size ≤ maxLen) := hds
  have hbl : b < W.heap.size := hrow.lt
  clear hrow hid hd hds
  go_enter Try.func11, Try.ntmps11
  go_wp2
  clear hmm hnil
  go_loopw [8, 21] (fun _ i wr => ∃ k : Nat, k ≤ n ∧ i = .int .i64 k ∧ MInv W Pt Id n k (W.heap.size + 1) wr) (fun _ i _ => n - (intOf i).toNat)
  case atStart =>
    refine ⟨0, Nat.zero_le _, rfl, ⟨⟨.map [], ?_, dinv_start Pt Id⟩, by omega, ((Below.refl _ _).alloc (Nat.le_refl _) _).alloc (by simp) _⟩⟩
    have := World.ownsMap_made (H := Unit) (W.alloc (.cells #[.string s, .slice a1 n1 c1, .slice a2 n2 c2, .slice (some ⟨b, 0, none⟩) n n] 32)) Try.prog 9 (plainElem Try.prog 4)
    rw [show (W.alloc (.cells #[.string s, .slice a1 n1 c1, .slice a2 n2 c2, .slice (some ⟨b, 0, none⟩) n n] 32)).heap.size = W.heap.size + 1 from by simp] at this
    exact this
  case round =>
    obtain ⟨k, hk, rfl, hI⟩ := hrel
    by_cases hlt : k < n
    · have r := HROW.out.of_block (hI.below.block b HROW.out.lt)
      have e0 : wr.cell? ⟨b, k * 2, none⟩ = some (.pointer (Pt k)) := by rw [r.cell (by omega)]; unfold tc; rw [if_pos (by omega), if_pos (by omega), show k * 2 / 2 = k from by omega]
      have e1 : wr.cell? ⟨b, k * 2 + 1, none⟩ = some (.slice (F k) (FL k) (FL k)) := by rw [r.cell (by omega)]; unfold tc; rw [if_pos (by omega), if_neg (by omega), show (k * 2 + 1) / 2 = k from by omega]
      obtain ⟨D, hD1, hD2⟩ := hI.map
      clear r
      cases hp : Pt k with
      | none =>
        rw [hp] at e0
        have hN : ∀ o, MInv W Pt Id n (k + 1) (W.heap.size + 1) (wr.alloc o) := fun o => ⟨⟨D, (hD1.mono (Nat.le_succ _)).alloc o, dinv_skip Pt Id k D hD2 hp⟩, hI.lo, hI.below.alloc hI.below.size o⟩
        clear hp hD1 hD2
        go_wp2
        go_roundw
        case rel => exact ⟨k + 1, by omega, by go_num, hN _⟩
        case measure => simp [intOf]; omega
      | some p =>
        rw [hp] at e0
        obtain ⟨hc, hsz⟩ := HID.out k hlt p hp
        have hc1 : wr.cell? p = some (.string (Id k)) := by rw [hI.below.cell (lt_of_cell hc)]; exact hc
        have a1' : ∀ o, (wr.alloc o).cell? p = some (.string (Id k)) := fun o => by rw [World.cell?_alloc_lt _ _ _ (lt_of_cell hc1)]; exact hc1
        obtain ⟨w3, hrun, hown3, hturn3⟩ := (hD1.alloc (.cells #[.pointer (some p), .slice (F k) (FL k) (FL k)] 39)).store law9 Try.underlying42 (by unfold maxLen; omega) (WideMaps.keyOf_string_mk Try.underlying9 hsz) (plainElem_bool Try.underlying4 true)
        have hN : MInv W Pt Id n (k + 1) (W.heap.size + 1) w3 := ⟨⟨_, hown3, dinv_put Pt Id k D hD1.isMap hD2 (by rw [hp]; rfl)⟩, hI.lo, (hI.below.alloc hI.below.size _).grown hturn3.grown (by simp; have := hI.below.size; omega) (by intro j hj; cases hj; omega)⟩
        clear hp hc hc1 hown3 hturn3 hD2
        go_wp2
        go_roundw
        case rel => exact ⟨k + 1, by omega, by go_num, hN⟩
        case measure => simp [intOf]; omega
    · have ekn : n = k := by omega
      subst ekn
      generalize wr = V at *
      go_wp2
      go_loop [10, 36] (fun _ i => ∃ k : Nat, k ≤ m ∧ i = .int .i64 k ∧ Hid (∀ j, j < k → named n (ptB Pt) (idL Id) (Dv j).data.toList = true)) (fun _ i => m - (intOf i).toNat)
      case atStart => exact ⟨0, Nat.zero_le _, rfl, (fun j hj => absurd hj (by omega) : ∀ j, j < 0 → named n (ptB Pt) (idL Id) (Dv j).data.toList = true)⟩
      case round =>
        obtain ⟨k, hk, rfl, HJ⟩ := hrel
        by_cases hlt : k < m
        · obtain ⟨x, rfl, hxc⟩ := (HD.out.below hI.below (Nat.le_refl _)) k hlt
          obtain ⟨D, hD1, hD2⟩ := hI.map
          obtain ⟨v, ps, hrun, hRv⟩ := hD1.lookup law9 Try.underlying42 (zero4 V) (plainElem_bool Try.underlying4 false) (WideMaps.keyOf_string_mk Try.underlying9 (HDS.out k hlt))
          rw [hD2 (Dv k).data.toList] at hRv
          obtain rfl := bool_inv v _ _ hRv
          clear hRv hD1 hD2
          cases hnm : named n (ptB Pt) (idL Id) (Dv k).data.toList
          · rw [hnm] at hrun
            have HR : Hid (First (fun k => named n (ptB Pt) (idL Id) (Dv k).data.toList) m (some k)) := ⟨hlt, hnm, HJ.out⟩
            clear hnm
            go_wp2
            go_ret2
            exact ⟨⟨some k, HR.out, rfl⟩, hI.below⟩
          · rw [hnm] at hrun
            have HJ1 : Hid (∀ j, j < k + 1 → named n (ptB Pt) (idL Id) (Dv j).data.toList = true) := by
              intro j hj
              by_cases e : j = k
              · subst e; exact hnm
              · exact HJ.out j (by omega)
            clear hnm
            go_wp2
            go_round
            case rel => exact ⟨k + 1, by omega, by go_num, HJ1⟩
            case measure => simp [intOf]; omega
        · have ekm : m = k := by omega
          subst ekm
          have HR : Hid (First (fun k => named n (ptB Pt) (idL Id) (Dv k).data.toList) m none) := HJ
          go_wp2
          go_ret2
          exact ⟨⟨none, HR.out, rfl⟩, hI.below⟩
end Go.Proofs.Qxb6601690a.Dis
