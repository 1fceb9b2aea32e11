import Derived.Test.Qxb6601359aRows
import Derived.WalkKit
import Derived.ProofKit
import Derived.OpenShut
import Derived.Deep.OwnRows
import Derived.Deep.QuietTactic
import Derived.BigQuiet
import Derived.Lib.SliceRun
namespace Go.Proofs.Qxb6601359a.Mem
open Go.ChangeShapes Go.WideShapes Go.ChangeAt Go.RowKit
set_option linter.unusedVariables false
set_option linter.unusedSimpArgs false

theorem ret_bool {a b : Bool} (h : a = b) : Ending.returned (.bool a) = .returned (.bool b) := by rw [h]
theorem val_int {k : IntKind} {a b : Int} (h : a = b) : Value.int k a = .int k b := by rw [h]

theorem info24 : (Try.prog.info? 24).map (fun i => (i.zero, i.size, i.bytes)) = some (some (.int .u64 0), 1, 8) := by kernel_rfl
theorem info53 : (Try.prog.info? 53).map (fun i => (i.zero, i.size, i.bytes)) = some (some (.agg #[.int .u64 0, .string ByteArray.empty, .slice none 0 0, .slice none 0 0]), 4, 72) := by kernel_rfl

theorem lt_of_cell {w : World} {a : Addr} {v : Value} (h : w.cell? a = some v) : a.block < w.heap.size := by
  unfold World.cell? at h
  by_cases hb : a.block < w.heap.size
  · exact hb
  · rw [Array.getElem?_eq_none (by omega)] at h
    simp at h

set_option maxHeartbeats 800000 in
theorem clone (x : Addr) (n cap : Nat) (z : Nat → Int) (W : World) (hc : ∀ i, i < n → W.cell? (x.add i) = some (.int .u64 (z i))) (hn : n ≤ 1048576) :
    Calls Try.prog 16 #[.slice (some x) n cap] W fun e w' => e = .returned (.slice (some ⟨W.heap.size, 0, none⟩) n n) ∧ w'.rowIs W.heap.size 24 n (fun i => .int .u64 (z i)) ∧ Below W.heap.size W w' ∧ w'.heap.size = W.heap.size + 1 := by
  have hmk := run_make_row' (P := Try.prog) 26 24 (.int .u64 0) 8 Try.underlying26 info24 rfl .i64 .i64 n (by omega) (by omega)
  have hnil := fun w => Lib.run_eql_slice_nil (P := Try.prog) w 26 24 (some x) n cap 0 0 Try.underlying26
  have HC : Hid (∀ i, i < n → W.cell? (x.add i) = some (.int .u64 (z i))) := hc
  clear hc
  go_enter Try.func16, Try.ntmps16
  go_wp2
  go_loopw [4] (fun i wr => ∃ k : Nat, k ≤ n ∧ i = .int .i64 k ∧ Hid (wr.rowIs W.heap.size 24 n (fun j => .int .u64 (if j < k then z j else 0))) ∧ Hid (Below W.heap.size W wr) ∧ wr.heap.size = W.heap.size + 1) (fun i _ => n - (intOf i).toNat)
  case atStart =>
    refine ⟨0, Nat.zero_le _, rfl, ?_, (Below.refl _ _).alloc (Nat.le_refl _) _, by simp⟩
    show World.rowIs _ _ _ _ _
    exact (World.rowIs_made W (.int .u64 0) n 24).congr fun i hi => val_int (by rw [if_neg (by omega)])
  case round =>
    obtain ⟨k, hk, rfl, HR, HB, hsz⟩ := hrel
    by_cases hlt : k < n
    · have hck := HC.out k hlt
      have hxb : (x.add k).block < W.heap.size := lt_of_cell hck
      have hc1 : wr.cell? (x.add k) = some (.int .u64 (z k)) := by rw [HB.out.cell hxb]; exact hck
      have hc2 := HR.out.cell hlt
      have hf2 := HR.out.frozen k
      clear hck
      go_wp2
      go_roundw
      case rel =>
        refine ⟨k + 1, by omega, by go_num, ?_, HB.out.setCell (Nat.le_refl _) _, by rw [World.size_setCell]; exact hsz⟩
        show World.rowIs _ _ _ _ _
        refine (HR.out.set k _).congr fun j hj => ?_
        by_cases hjk : j = k
        · subst hjk; rw [if_pos rfl, if_pos (by omega)]
        · rw [if_neg hjk]; exact val_int (by by_cases h1 : j < k <;> simp [h1] <;> omega)
      case measure => simp [intOf]; omega
    · go_wp2
      go_ret
      have e : k = n := by omega
      subst e
      refine ⟨rfl, HR.out.congr fun i hi => ?_, HB.out, hsz⟩
      simp [hi]

theorem cells53 : Try.prog.cellsOf 53 = 4 := by kernel_rfl
theorem cells55 : Try.prog.cellsOf 55 = 3 := by kernel_rfl

/-- What the row of events holds once the first k have their number. -/
def evc (z : Nat → Int) (k j : Nat) : Value :=
  if j % 4 = 0 then .int .u64 (if j / 4 < k then z (j / 4) else 0) else if j % 4 = 1 then .string ByteArray.empty else .slice none 0 0

theorem rowIs_made4 (w : World) (zs : Array Value) (n : Nat) (t : TypeId) (f : Nat → Value) (h : ∀ j, zs[j % zs.size]! = f j) :
    (w.alloc (.cells (madeCells zs n) t)).rowIs w.heap.size t n f :=
  ⟨_, Deep.blk_alloc_new _ _, size_madeCells _ _, fun i hi => by simp [madeCells, hi]; exact h i⟩

theorem evc_zero (z : Nat → Int) (j : Nat) : (#[Value.int .u64 0, .string ByteArray.empty, .slice none 0 0, .slice none 0 0] : Array Value)[j % (#[Value.int .u64 0, .string ByteArray.empty, .slice none 0 0, .slice none 0 0] : Array Value).size]! = evc z 0 j := by
  have e : (#[Value.int .u64 0, .string ByteArray.empty, .slice none 0 0, .slice none 0 0] : Array Value).size = 4 := rfl
  rw [e]
  unfold evc
  have h4 : j % 4 < 4 := Nat.mod_lt _ (by omega)
  generalize j % 4 = m at h4
  have : m = 0 ∨ m = 1 ∨ m = 2 ∨ m = 3 := by omega
  rcases this with rfl | rfl | rfl | rfl <;> simp
theorem evc_next (z : Nat → Int) (k j : Nat) : (if j = k * 4 then .int .u64 (z k) else evc z k j) = evc z (k + 1) j := by
  by_cases h : j = k * 4
  · rw [if_pos h]
    unfold evc
    rw [if_pos (by omega), if_pos (by omega), show j / 4 = k from by omega]
  · rw [if_neg h]
    unfold evc
    by_cases h0 : j % 4 = 0
    · rw [if_pos h0, if_pos h0]
      exact val_int (by by_cases h1 : j / 4 < k <;> simp [h1] <;> omega)
    · rw [if_neg h0, if_neg h0]

/-- The three cells of a kindHistory. -/
def khc (e n : Nat) (start bytes : Int) (i : Nat) : Value :=
  if i = 0 then .slice (some ⟨e, 0, none⟩) n n else if i = 1 then .int .u64 start else .int .i64 bytes
/-- AT BLOCK b LIES A kindHistory: n events that bear the numbers z, 'bytes' bytes. -/
def KH (W : World) (b n : Nat) (z : Nat → Int) (bytes : Int) : Prop :=
  ∃ e start, W.rowIs e 53 (n * 4) (evc z n) ∧ W.rowIs b 55 3 (khc e n start bytes)
theorem KH.below {W W' : World} {b n : Nat} {z : Nat → Int} {bytes : Int} (h : KH W b n z bytes) (hb : Below W.heap.size W W') : KH W' b n z bytes := by
  obtain ⟨e, start, h1, h2⟩ := h
  exact ⟨e, start, h1.of_block (hb.block e h1.lt), h2.of_block (hb.block b h2.lt)⟩
theorem KH.lt {W : World} {b n : Nat} {z : Nat → Int} {bytes : Int} (h : KH W b n z bytes) : b < W.heap.size := by
  obtain ⟨e, start, h1, h2⟩ := h
  exact h2.lt
theorem below_drewN' {B : Nat} {a w : World} (h : Below B a w) (n : Nat) : Below B a (w.drewN n) := ⟨h.os, h.tape, h.output, h.size, h.block⟩

set_option maxHeartbeats 800000 in
theorem kindHist (x : Addr) (n cap : Nat) (z : Nat → Int) (start bytes : Int) (W : World) (hc : ∀ i, i < n → W.cell? (x.add i) = some (.int .u64 (z i))) (hn : n ≤ 1048576) :
    Calls Try.prog 26 #[.slice (some x) n cap, .int .u64 start, .int .i64 bytes] W fun e w' => e = .returned (.pointer (some ⟨W.heap.size + 1, 0, none⟩)) ∧
      KH w' (W.heap.size + 1) n z bytes ∧ Below W.heap.size W w' ∧ w'.heap.size = W.heap.size + 2 := by
  have hmk : ∀ w : World, (Instr.makeSlice 50 (.int .i64 (n : Int)) (.int .i64 (n : Int))).run Try.prog w = .ok (.slice (some ⟨w.heap.size, 0, none⟩) n n) (w.alloc (.cells (madeCells #[.int .u64 0, .string ByteArray.empty, .slice none 0 0, .slice none 0 0] (n * 4)) 53)) := by
    intro w
    obtain ⟨i, hi, hzz⟩ := Option.map_eq_some_iff.1 info53
    simp only [Prod.mk.injEq] at hzz
    obtain ⟨hz, hs, hb⟩ := hzz
    have := run_make (P := Try.prog) w 50 53 i _ Try.underlying50 hi hz .i64 .i64 n n (by omega) (by omega) (by rw [hb]; omega) (by omega)
    rw [hs, show (Value.agg #[.int .u64 0, .string ByteArray.empty, .slice none 0 0, .slice none 0 0]).cells = #[.int .u64 0, .string ByteArray.empty, .slice none 0 0, .slice none 0 0] from by simp [Value.cells]] at this
    simpa using this
  have HC : Hid (∀ i, i < n → W.cell? (x.add i) = some (.int .u64 (z i))) := hc
  clear hc
  go_enter Try.func26, Try.ntmps26
  go_wp2
  go_loopw [8] (fun i wr => ∃ k : Nat, k ≤ n ∧ i = .int .i64 k ∧ Hid (wr.rowIs W.heap.size 53 (n * 4) (evc z k)) ∧ Hid (Below W.heap.size W wr) ∧ wr.heap.size = W.heap.size + 1) (fun i _ => n - (intOf i).toNat)
  case atStart =>
    refine ⟨0, Nat.zero_le _, rfl, ?_, (Below.refl _ _).alloc (Nat.le_refl _) _, by simp⟩
    show World.rowIs _ _ _ _ _
    exact rowIs_made4 _ _ _ _ _ fun j => evc_zero z j
  case round =>
    obtain ⟨k, hk, rfl, HR, HB, hsz⟩ := hrel
    by_cases hlt : k < n
    · have hck := HC.out k hlt
      have hxb : (x.add k).block < W.heap.size := lt_of_cell hck
      have hc1 : wr.cell? (x.add k) = some (.int .u64 (z k)) := by rw [HB.out.cell hxb]; exact hck
      have hc2 := HR.out.cell (i := k * 4) (by omega)
      have hf2 := HR.out.frozen (k * 4)
      have hs53 := cells53
      clear hck
      go_wp2
      refine ⟨⟨k + 1, by omega, by go_num, ?_, HB.out.setCell (Nat.le_refl _) _, by rw [World.size_setCell]; exact hsz⟩, by simp [intOf]; omega⟩
      show World.rowIs _ _ _ _ _
      exact (HR.out.set (k * 4) _).congr fun j hj => evc_next z k j
    · obtain rfl : k = n := by omega
      go_wp2
      go_ret
      refine ⟨rfl, ⟨W.heap.size, start, HR.out.alloc _, ?_⟩, HB.out.alloc (by omega) _, by simp; omega⟩
      have hr := World.rowIs_alloc wr #[.slice (some ⟨W.heap.size, 0, none⟩) k k, .int .u64 start, .int .i64 bytes] 55 (khc W.heap.size k start bytes) (fun i hi => by
        have : i = 0 ∨ i = 1 ∨ i = 2 := by simp at hi; omega
        rcases this with rfl | rfl | rfl <;> rfl)
      rw [hsz] at hr
      exact hr

/-- What 'outweighs' answers: k's number of events, bytes, first number; o's. -/
def ow (nk : Nat) (bk zk : Int) (no : Nat) (bo zo : Int) (byEv : Bool) : Bool :=
  if byEv = true then (if (nk : Int) = no then decide (zk < zo) else decide ((no : Int) < nk))
  else (if bk = bo then decide (zk < zo) else decide (bo < bk))

set_option maxHeartbeats 800000 in
theorem outweighs (bk nk : Nat) (zk : Nat → Int) (yk : Int) (bo no : Nat) (zo : Nat → Int) (yo : Int) (byEv : Bool) (W : World) (hk : KH W bk nk zk yk) (ho : KH W bo no zo yo) (k0 : 0 < nk) (o0 : 0 < no) (k1 : nk ≤ 1048576) (o1 : no ≤ 1048576) :
    Calls Try.prog 28 #[.pointer (some ⟨bk, 0, none⟩), .pointer (some ⟨bo, 0, none⟩), .bool byEv] W fun e w' => e = .returned (.bool (ow nk yk (zk 0) no yo (zo 0) byEv)) ∧ ∃ m, w' = W.drewN m := by
  obtain ⟨ek, sk, hk1, hk2⟩ := hk
  obtain ⟨eo, so, ho1, ho2⟩ := ho
  have c1 : W.cell? ⟨bk, 0, none⟩ = some (.slice (some ⟨ek, 0, none⟩) nk nk) := hk2.cell (i := 0) (by omega)
  have c2 : W.cell? ⟨bk, 2, none⟩ = some (.int .i64 yk) := hk2.cell (i := 2) (by omega)
  have c3 : W.cell? ⟨ek, 0, none⟩ = some (.int .u64 (zk 0)) := by rw [hk1.cell (i := 0) (by omega)]; simp [evc, k0]
  have d1 : W.cell? ⟨bo, 0, none⟩ = some (.slice (some ⟨eo, 0, none⟩) no no) := ho2.cell (i := 0) (by omega)
  have d2 : W.cell? ⟨bo, 2, none⟩ = some (.int .i64 yo) := ho2.cell (i := 2) (by omega)
  have d3 : W.cell? ⟨eo, 0, none⟩ = some (.int .u64 (zo 0)) := by rw [ho1.cell (i := 0) (by omega)]; simp [evc, o0]
  clear hk1 hk2 ho1 ho2
  have hs53 := cells53
  have hs55 := cells55
  cases byEv
  · by_cases hy : yk = yo
    · have H : Hid (ow nk yk (zk 0) no yo (zo 0) false = decide (zk 0 < zo 0)) := by show _ = _; simp [ow, hy]
      have hb : (yk != yo) = false := by rw [bne_eq_false_iff_eq]; exact hy
      clear hy
      go_enter Try.func28, Try.ntmps28
      go_wp2
      go_quiet (fail)
      go_wp2
      go_quiet (fail)
      go_wp2
      go_ret
      exact ⟨ret_bool H.out.symm, _, by first | rfl | (simp only [World.drewN_drewN]; rfl)⟩
    · have H : Hid (ow nk yk (zk 0) no yo (zo 0) false = decide (yo < yk)) := by show _ = _; simp [ow, hy]
      have hb : (yk != yo) = true := by rw [bne_iff_ne]; exact hy
      clear hy
      go_enter Try.func28, Try.ntmps28
      go_wp2
      go_quiet (fail)
      go_wp2
      go_ret
      exact ⟨ret_bool H.out.symm, _, rfl⟩
  · by_cases hy : (nk : Int) = no
    · have H : Hid (ow nk yk (zk 0) no yo (zo 0) true = decide (zk 0 < zo 0)) := by show _ = _; simp only [ow, if_true, if_pos hy]
      have hb : ((nk : Int) != (no : Int)) = false := by rw [bne_eq_false_iff_eq]; exact hy
      clear hy
      go_enter Try.func28, Try.ntmps28
      go_wp2
      go_quiet (fail)
      go_wp2
      go_quiet (fail)
      go_wp2
      go_quiet (fail)
      go_wp2
      go_ret
      exact ⟨ret_bool H.out.symm, _, by first | rfl | (simp only [World.drewN_drewN]; rfl)⟩
    · have H : Hid (ow nk yk (zk 0) no yo (zo 0) true = decide ((no : Int) < nk)) := by show _ = _; simp only [ow, if_true, if_neg hy]
      have hb : ((nk : Int) != (no : Int)) = true := by rw [bne_iff_ne]; exact hy
      clear hy
      go_enter Try.func28, Try.ntmps28
      go_wp2
      go_quiet (fail)
      go_wp2
      go_quiet (fail)
      go_wp2
      go_ret
      exact ⟨ret_bool (by rw [H.out]; simp), _, by first | rfl | (simp only [World.drewN_drewN]; rfl)⟩
end Go.Proofs.Qxb6601359a.Mem
