import Derived.Test.Qxb6601359aVic
import Derived.Deep.RegionHeld3
import Derived.BigRegion
namespace Go.Proofs.Qxb6601359a.Vic
open Go.ChangeShapes Go.WideShapes Go.ChangeAt Go.RowKit Go.Maps
open Go.Proofs.Qxb6601359a.Mem
set_option linter.unusedVariables false
set_option linter.unusedSimpArgs false

/-- A slice of uint64 at a, nil or not: n numbers z. -/
def U64 (W : World) (a : Option Addr) (n : Nat) (z : Nat → Int) : Prop := ∀ i, i < n → ∃ x, a = some x ∧ W.cell? (x.add i) = some (.int .u64 (z i))
theorem U64.below {W W' : World} {B : Nat} {a : Option Addr} {n : Nat} {z : Nat → Int} (h : U64 W a n z) (hb : Below B W W') (hB : W.heap.size ≤ B) : U64 W' a n z := by
  intro i hi
  obtain ⟨x, hx, hc⟩ := h i hi
  exact ⟨x, hx, by rw [hb.cell (Nat.lt_of_lt_of_le (lt_of_cell hc) hB)]; exact hc⟩

theorem run_makeMap_hint (n : Int) (w : World) : (Instr.makeMap 41 (some (.int .i64 n))).run Try.prog w = .ok (.map (some w.heap.size)) (w.alloc (.map #[] 0)) := by
  simp [Instr.makeMap, run_underlying Try.underlying41, asInt, asIntOf, Result.andThen]

set_option maxHeartbeats 800000 in
theorem kindHist0 (cap : Nat) (z : Nat → Int) (start bytes : Int) (W : World) :
    Calls Try.prog 26 #[.slice none 0 cap, .int .u64 start, .int .i64 bytes] W fun e w' => e = .returned (.pointer (some ⟨W.heap.size + 1, 0, none⟩)) ∧
      KH w' (W.heap.size + 1) 0 z bytes ∧ Below W.heap.size W w' ∧ w'.heap.size = W.heap.size + 2 := by
  have hmk : ∀ w : World, (Instr.makeSlice 50 (.int .i64 0) (.int .i64 0)).run Try.prog w = .ok (.slice (some ⟨w.heap.size, 0, none⟩) 0 0) (w.alloc (.cells (madeCells #[.int .u64 0, .string ByteArray.empty, .slice none 0 0, .slice none 0 0] (0 * 4)) 53)) := by
    intro w
    obtain ⟨i, hi, hzz⟩ := Option.map_eq_some_iff.1 info53
    simp only [Prod.mk.injEq] at hzz
    obtain ⟨hz, hs, hb⟩ := hzz
    have := run_make (P := Try.prog) w 50 53 i _ Try.underlying50 hi hz .i64 .i64 0 0 (by omega) (by omega) (by rw [hb]; omega) (by omega)
    rw [hs, show (Value.agg #[.int .u64 0, .string ByteArray.empty, .slice none 0 0, .slice none 0 0]).cells = #[.int .u64 0, .string ByteArray.empty, .slice none 0 0, .slice none 0 0] from by simp [Value.cells]] at this
    simpa using this
  go_enter Try.func26, Try.ntmps26
  go_wp2
  refine wp_loop_rounds 1 ?_
  rw [rounds_succ]
  go_wp2
  go_ret
  have hr0 := rowIs_made4 W #[.int .u64 0, .string ByteArray.empty, .slice none 0 0, .slice none 0 0] (0 * 4) 53 (evc z 0) (fun j => evc_zero z j)
  refine ⟨rfl, ⟨W.heap.size, start, hr0.alloc _, ?_⟩, ((Below.refl _ _).alloc (Nat.le_refl _) _).alloc (by simp) _, by simp⟩
  have hr := World.rowIs_alloc (W.alloc (.cells (madeCells #[.int .u64 0, .string ByteArray.empty, .slice none 0 0, .slice none 0 0] (0 * 4)) 53)) #[.slice (some ⟨W.heap.size, 0, none⟩) 0 0, .int .u64 start, .int .i64 bytes] 55 (khc W.heap.size 0 start bytes) (fun i hi => by
    have : i = 0 ∨ i = 1 ∨ i = 2 := by simp at hi; omega
    rcases this with rfl | rfl | rfl <;> rfl)
  have e : (W.alloc (.cells (madeCells #[.int .u64 0, .string ByteArray.empty, .slice none 0 0, .slice none 0 0] (0 * 4)) 53)).heap.size = W.heap.size + 1 := by simp
  rw [e] at hr
  exact hr

theorem kindHist_any (a : Option Addr) (n cap : Nat) (z : Nat → Int) (start bytes : Int) (W : World) (hc : U64 W a n z) (hn : n ≤ 1048576) :
    Calls Try.prog 26 #[.slice a n cap, .int .u64 start, .int .i64 bytes] W fun e w' => e = .returned (.pointer (some ⟨W.heap.size + 1, 0, none⟩)) ∧
      KH w' (W.heap.size + 1) n z bytes ∧ Below W.heap.size W w' ∧ w'.heap.size = W.heap.size + 2 := by
  cases a with
  | none =>
    have h0 : n = 0 := by
      cases n with
      | zero => rfl
      | succ n => obtain ⟨x, hx, _⟩ := hc 0 (by omega); cases hx
    subst h0
    exact kindHist0 cap z start bytes W
  | some x => exact kindHist x n cap z start bytes W (fun i hi => by obtain ⟨y, hy, h⟩ := hc i hi; cases hy; exact h) hn

/-- The four cells of each kind, as they lie in a row. -/
def kc (Nm : Nat → ByteArray) (R : Nat → Option Addr) (L : Nat → Nat) (S B : Nat → Int) (j : Nat) : Value :=
  if j % 4 = 0 then .string (Nm (j / 4)) else if j % 4 = 1 then .slice (R (j / 4)) (L (j / 4)) (L (j / 4)) else if j % 4 = 2 then .int .u64 (S (j / 4)) else .int .i64 (B (j / 4))
theorem kc0 (Nm : Nat → ByteArray) (R : Nat → Option Addr) (L : Nat → Nat) (S B : Nat → Int) (i : Nat) : kc Nm R L S B (i * 4) = .string (Nm i) := by
  unfold kc; rw [if_pos (by omega), show i * 4 / 4 = i from by omega]
theorem kc1 (Nm : Nat → ByteArray) (R : Nat → Option Addr) (L : Nat → Nat) (S B : Nat → Int) (i : Nat) : kc Nm R L S B (i * 4 + 1) = .slice (R i) (L i) (L i) := by
  unfold kc; rw [if_neg (by omega), if_pos (by omega), show (i * 4 + 1) / 4 = i from by omega]
theorem kc2 (Nm : Nat → ByteArray) (R : Nat → Option Addr) (L : Nat → Nat) (S B : Nat → Int) (i : Nat) : kc Nm R L S B (i * 4 + 2) = .int .u64 (S i) := by
  unfold kc; rw [if_neg (by omega), if_neg (by omega), if_pos (by omega), show (i * 4 + 2) / 4 = i from by omega]
theorem kc3 (Nm : Nat → ByteArray) (R : Nat → Option Addr) (L : Nat → Nat) (S B : Nat → Int) (i : Nat) : kc Nm R L S B (i * 4 + 3) = .int .i64 (B i) := by
  unfold kc; rw [if_neg (by omega), if_neg (by omega), if_neg (by omega), show (i * 4 + 3) / 4 = i from by omega]

/-- What the map of the first kinds says. -/
structure DInv (K : Kinds) (pb : Nat → Nat) (D : DataW Unit) : Prop where
  m1 : ∀ i, K.Live i → ∀ zd, D.atKey (.string (K.nm i)) zd = .lit (.int .i64 (pb i))
  m2 : ∀ kl, Maps.has D kl = true → ∃ i, K.Live i ∧ kl = .string (K.nm i)
  m3 : ∀ i, K.Live i → Maps.has D (.string (K.nm i)) = true
theorem dinv_start (K : Kinds) (pb : Nat → Nat) : DInv { K with n := 0 } pb (.map []) :=
  ⟨fun i h => absurd h.1 (by simp), fun kl h => by simp [Maps.has_eq] at h, fun i h => absurd h.1 (by simp)⟩
theorem live_next (K : Kinds) (k i : Nat) (h : Kinds.Live { K with n := k + 1 } i) : i = k ∨ (Kinds.Live { K with n := k } i ∧ K.nm k ≠ K.nm i) := by
  have h1 : i < k + 1 := h.1
  by_cases e : i = k
  · exact Or.inl e
  · refine Or.inr ⟨⟨by show i < k; omega, fun j hj hk => h.2 j hj (by show j < k + 1; have : j < k := hk; omega)⟩, h.2 k (by omega) (by show k < k + 1; omega)⟩
theorem live_new (K : Kinds) (k : Nat) : Kinds.Live { K with n := k + 1 } k := ⟨by show k < k + 1; omega, fun j hj hk => absurd hk (by show ¬ j < k + 1; omega)⟩
theorem live_old (K : Kinds) (k i : Nat) (h : Kinds.Live { K with n := k } i) (hn : K.nm k ≠ K.nm i) : Kinds.Live { K with n := k + 1 } i := by
  have h1 : i < k := h.1
  refine ⟨by show i < k + 1; omega, fun j hj hk => ?_⟩
  have hk' : j < k + 1 := hk
  by_cases e : j = k
  · subst e; exact hn
  · exact h.2 j hj (by show j < k; omega)
theorem dinv_next (K : Kinds) (pb : Nat → Nat) (k : Nat) (D : DataW Unit) (hD : IsMap D) (h : DInv { K with n := k } pb D) : DInv { K with n := k + 1 } pb (D.put (.string (K.nm k)) (.lit (.int .i64 (pb k)))) := by
  refine ⟨fun i hi zd => ?_, fun kl hkl => ?_, fun i hi => ?_⟩
  · rcases live_next K k i hi with rfl | ⟨hi', hn⟩
    · exact atKey_put_same hD (show WideAt.IsKeyLit (.string _) from trivial) _ _
    · show (D.put (.string (K.nm k)) _).atKey (.string (K.nm i)) zd = _
      rw [atKey_put_other (by intro e; exact hn (by injection e with e; exact e.symm))]
      exact h.m1 i hi' zd
  · by_cases e : kl = .string (K.nm k)
    · exact ⟨k, live_new K k, e⟩
    · rw [has_put_other e] at hkl
      obtain ⟨i, hi, rfl⟩ := h.m2 kl hkl
      exact ⟨i, live_old K k i hi (by intro e'; exact e (by show Lit.string (K.nm i) = _; rw [e'])), rfl⟩
  · rcases live_next K k i hi with rfl | ⟨hi', hn⟩
    · exact has_put_same hD (show WideAt.IsKeyLit (.string _) from trivial) _
    · show Maps.has (D.put (.string (K.nm k)) _) (.string (K.nm i)) = true
      rw [has_put_other (by intro e; exact hn (by injection e with e; exact e.symm))]
      exact h.m3 i hi'

theorem info45 : (Try.prog.info? 45).map (fun i => (i.zero, i.size, i.bytes)) = some (some (.pointer none), 1, 8) := by kernel_rfl
theorem cells32 : Try.prog.cellsOf 32 = 4 := by kernel_rfl
theorem zero45 (w : World) : (zeroValue 45).run Try.prog w = .ok (.pointer none) w := by kernel_rfl

/-- the cells of the history -/
def hc (mb : Nat) (base ev by_ mx mb_ : Int) (i : Nat) : Value :=
  if i = 0 then .map (some mb) else if i = 1 then .int .u64 base else if i = 2 then .int .i64 ev else if i = 3 then .int .i64 by_ else if i = 4 then .int .i64 mx else .int .i64 mb_

/-- The memory while 'ZZVictim' fills its history: k kinds are in. -/
structure ZInv (K : Kinds) (base ev bts mx mbs : Int) (W : World) (k : Nat) (wr : World) : Prop where
  size : wr.heap.size = W.heap.size + 3 + 2 * k
  below : Below W.heap.size W wr
  ptrs : wr.rowIs (W.heap.size + 2) 45 K.n (fun j => .pointer (if j < k then some ⟨W.heap.size + 4 + 2 * j, 0, none⟩ else none))
  hist : wr.rowIs (W.heap.size + 1) 43 6 (hc W.heap.size base ev bts mx mbs)
  kh : ∀ j, j < k → KH wr (W.heap.size + 4 + 2 * j) (K.L j) (K.Z j) (K.Bt j)
  map : ∃ D, wr.ownsMap Try.prog 9 ptrElem W.heap.size k D ∧ DInv { K with n := k } (fun j => W.heap.size + 4 + 2 * j) D

theorem zinv_start (K : Kinds) (base ev bts mx mbs : Int) (W : World) :
    ZInv K base ev bts mx mbs W 0 (((W.alloc (.map #[] 0)).alloc (.cells #[.map (some W.heap.size), .int .u64 base, .int .i64 ev, .int .i64 bts, .int .i64 mx, .int .i64 mbs] 43)).alloc (.cells (madeCells #[.pointer none] K.n) 45)) := by
  refine ⟨by simp, (((Below.refl _ _).alloc (Nat.le_refl _) _).alloc (by simp) _).alloc (by simp; omega) _, ?_, ?_, fun j hj => absurd hj (by omega), .map [], ?_, dinv_start K _⟩
  · have := World.rowIs_made ((W.alloc (.map #[] 0)).alloc (.cells #[.map (some W.heap.size), .int .u64 base, .int .i64 ev, .int .i64 bts, .int .i64 mx, .int .i64 mbs] 43)) (.pointer none) K.n 45
    rw [show ((W.alloc (.map #[] 0)).alloc (.cells #[.map (some W.heap.size), .int .u64 base, .int .i64 ev, .int .i64 bts, .int .i64 mx, .int .i64 mbs] 43)).heap.size = W.heap.size + 2 from by simp] at this
    exact this.congr fun j hj => by simp
  · have := World.rowIs_alloc (W.alloc (.map #[] 0)) #[.map (some W.heap.size), .int .u64 base, .int .i64 ev, .int .i64 bts, .int .i64 mx, .int .i64 mbs] 43 (hc W.heap.size base ev bts mx mbs) (fun i hi => by
      have : i = 0 ∨ i = 1 ∨ i = 2 ∨ i = 3 ∨ i = 4 ∨ i = 5 := by simp at hi; omega
      rcases this with rfl | rfl | rfl | rfl | rfl | rfl <;> rfl)
    rw [show (W.alloc (.map #[] 0)).heap.size = W.heap.size + 1 from by simp] at this
    exact this.alloc _
  · exact ((World.ownsMap_made W _ _ _).alloc _).alloc _

/-- .. behind the call that makes the next kind's history: it lies, but is in neither table yet. -/
structure ZMid (K : Kinds) (base ev bts mx mbs : Int) (W : World) (k : Nat) (wr : World) : Prop where
  size : wr.heap.size = W.heap.size + 5 + 2 * k
  below : Below W.heap.size W wr
  ptrs : wr.rowIs (W.heap.size + 2) 45 K.n (fun j => .pointer (if j < k then some ⟨W.heap.size + 4 + 2 * j, 0, none⟩ else none))
  hist : wr.rowIs (W.heap.size + 1) 43 6 (hc W.heap.size base ev bts mx mbs)
  kh : ∀ j, j < k + 1 → KH wr (W.heap.size + 4 + 2 * j) (K.L j) (K.Z j) (K.Bt j)
  map : ∃ D, wr.ownsMap Try.prog 9 ptrElem W.heap.size k D ∧ DInv { K with n := k } (fun j => W.heap.size + 4 + 2 * j) D
theorem ownsMap_below {w w' : World} {B b n : Nat} {D : DataW Unit} (h : w.ownsMap Try.prog 9 ptrElem b n D) (hb : Below B w w') (hB : b < B) : w'.ownsMap Try.prog 9 ptrElem b n D := by
  obtain ⟨es, clock, h1, r⟩ := h
  exact ⟨es, clock, (hb.block b hB).trans h1, r⟩
theorem zmid_of (K : Kinds) (base ev bts mx mbs : Int) (W : World) (k : Nat) (wr w1 : World) (h : ZInv K base ev bts mx mbs W k wr) (hb : Below wr.heap.size wr w1) (hs : w1.heap.size = wr.heap.size + 2)
    (hk : KH w1 (wr.heap.size + 1) (K.L k) (K.Z k) (K.Bt k)) : ZMid K base ev bts mx mbs W k w1 := by
  have hsz := h.size
  obtain ⟨D, hD, hD2⟩ := h.map
  refine ⟨by omega, h.below.trans (hb.mono (by omega)), h.ptrs.of_block (hb.block _ h.ptrs.lt), h.hist.of_block (hb.block _ h.hist.lt), fun j hj => ?_, D, ownsMap_below hD hb hD.lt, hD2⟩
  by_cases e : j = k
  · subst e; rw [show W.heap.size + 4 + 2 * j = wr.heap.size + 1 from by omega]; exact hk
  · exact (h.kh j (by omega)).below hb

theorem turned_size {w w' : World} {b : Nat} (h : w.mapTurned w' b) : w'.heap.size = w.heap.size := by
  obtain ⟨es, clock, es', clock', _, rfl⟩ := h
  simp [ChangeMaps.setBlock]
theorem zinv_next (K : Kinds) (Nm : Nat → ByteArray) (base ev bts mx mbs : Int) (W : World) (k : Nat) (w1 w3 : World) (D : DataW Unit) (hk : k < K.n) (hnm : K.nm k = (Nm k).data.toList) (h : ZMid K base ev bts mx mbs W k w1)
    (hD : DInv { K with n := k } (fun j => W.heap.size + 4 + 2 * j) D) (hm : IsMap D)
    (hT : World.mapTurned (w1.setCell ⟨W.heap.size + 1 + 1, k, none⟩ (.pointer (some ⟨W.heap.size + 4 + 2 * k, 0, none⟩))).drew w3 W.heap.size)
    (hO : w3.ownsMap Try.prog 9 ptrElem W.heap.size (k + 1) (D.put (.string (Nm k).data.toList) (.lit (.int .i64 (W.heap.size + 4 + 2 * k : Nat))))) : ZInv K base ev bts mx mbs W (k + 1) w3 := by
  have hs := turned_size hT
  have hg := hT.grown
  have hs1 := h.size
  have hs2 : (w1.setCell ⟨W.heap.size + 1 + 1, k, none⟩ (.pointer (some ⟨W.heap.size + 4 + 2 * k, 0, none⟩))).drew.heap.size = w1.heap.size := by
    show (World.setCell w1 _ _).heap.size = _
    rw [World.size_setCell]
  have blk : ∀ b, b ≠ W.heap.size → b ≠ W.heap.size + 2 → b < w1.heap.size → w3.heap[b]? = w1.heap[b]? := by
    intro b hb hb2 hl
    rw [hg.block b (by rw [hs2]; exact hl) (by simpa using hb)]
    exact Below.heap_setCell _ _ _ _ hb2
  refine ⟨by omega, ?_, ?_, ?_, fun j hj => ?_, _, hO, ?_⟩
  · have h1 : Below W.heap.size W (w1.setCell ⟨W.heap.size + 1 + 1, k, none⟩ (.pointer (some ⟨W.heap.size + 4 + 2 * k, 0, none⟩))).drew := (h.below.setCell (by show W.heap.size ≤ W.heap.size + 1 + 1; omega) _).drew
    exact h1.grown hg (by rw [hs2]; omega) (by intro j hj; cases hj; exact Nat.le_refl _)
  · have h1 := (h.ptrs.set k (.pointer (some ⟨W.heap.size + 4 + 2 * k, 0, none⟩))).drew
    have h2 := h1.of_block (w' := w3) (by rw [hg.block (W.heap.size + 2) (by rw [hs2]; omega) (by simp)])
    refine h2.congr fun j hj => ?_
    by_cases e : j = k
    · subst e; rw [if_pos rfl, if_pos (by omega)]
    · rw [if_neg e]
      by_cases e2 : j < k
      · rw [if_pos e2, if_pos (by omega)]
      · rw [if_neg e2, if_neg (by omega)]
  · exact h.hist.of_block (blk _ (by omega) (by omega) h.hist.lt)
  · obtain ⟨e, s, h1, h2⟩ := h.kh j hj
    have he : e < w1.heap.size := h1.lt
    refine ⟨e, s, ?_, h2.of_block (blk _ (by omega) (by omega) h2.lt)⟩
    refine h1.of_block (blk e ?_ ?_ he)
    · intro e'
      obtain ⟨D', hD', _⟩ := h.map
      obtain ⟨es, cl, hmap, _⟩ := hD'
      obtain ⟨c, hc, _⟩ := h1
      rw [e', hmap] at hc; cases hc
    · intro e'
      obtain ⟨c, hc, _⟩ := h1
      obtain ⟨c', hc', _⟩ := h.ptrs
      rw [e', hc'] at hc; cases hc
  · have := dinv_next K (fun j => W.heap.size + 4 + 2 * j) k D hm hD
    rw [hnm] at this
    exact this

/-- i may be dropped from, by names alone. -/
def Kinds.El (K : Kinds) (nl : List UInt8) (i : Nat) : Bool := decide (0 < K.L i) && !(decide (K.nm i = nl) && decide (K.L i = 1))
/-- What 'ZZVictim' answers. -/
def VRes (K : Kinds) (nl : List UInt8) (byEv : Bool) : Option Nat → Prop
  | none => ∀ i, K.Live i → K.El nl i = false
  | some v => K.Live v ∧ K.El nl v = true ∧ ∀ i, K.Live i → K.El nl i = true → K.beats byEv i v = false
def NW (K : Kinds) (pb : Nat → Nat) (nl : List UInt8) (nw : Option Nat) : Prop := (∃ i, K.Live i ∧ K.nm i = nl ∧ nw = some (pb i)) ∨ (nw = none ∧ ∀ i, K.Live i → K.nm i ≠ nl)
theorem nw_of (K : Kinds) (pb : Nat → Nat) (nl : List UInt8) (D : DataW Unit) (h : DInv K pb D) (v : Value) (ps : List MemPlace) (hv : ptrElem v = some (D.atKey (.string nl) .nil, ps)) : ∃ nw : Option Nat, v = .pointer (nw.map fun b => ⟨b, 0, none⟩) ∧ NW K pb nl nw := by
  obtain ⟨nw, rfl⟩ := ptrElem_inv v _ hv
  refine ⟨nw, rfl, ?_⟩
  cases hh : Maps.has D (.string nl)
  · right
    refine ⟨?_, fun i hi e => by have := h.m3 i hi; rw [e, hh] at this; cases this⟩
    rw [atKey_of_not_has hh] at hv
    cases nw with
    | none => rfl
    | some b => simp [ptrElem] at hv
  · left
    obtain ⟨i, hi, e⟩ := h.m2 _ hh
    injection e with e
    refine ⟨i, hi, e.symm, ?_⟩
    rw [e, h.m1 i hi] at hv
    cases nw with
    | none => simp [ptrElem] at hv
    | some b => simp [ptrElem] at hv; rw [show b = pb i from by omega]
theorem elig_el (K : Kinds) (pb : Nat → Nat) (nl : List UInt8) (nw : Option Nat) (h : NW K pb nl nw) (hinj : ∀ i j, i < K.n → j < K.n → pb i = pb j → i = j) (i : Nat) (hi : K.Live i) : K.elig pb nw i = K.El nl i := by
  unfold Kinds.elig Kinds.El
  congr 3
  rw [Bool.eq_iff_iff, decide_eq_true_eq, decide_eq_true_eq]
  rcases h with ⟨j, hj, e, rfl⟩ | ⟨rfl, hno⟩
  · constructor
    · intro h
      injection h with h
      rw [← hinj j i hj.1 hi.1 h]; exact e
    · intro h
      rw [live_same K j i hj hi (by rw [e, h])]
  · constructor
    · intro h; cases h
    · intro h; exact absurd h (hno i hi)
theorem vres_of (K : Kinds) (pb : Nat → Nat) (nl : List UInt8) (nw : Option Nat) (byEv : Bool) (v : Option Nat) (h : NW K pb nl nw) (hinj : ∀ i j, i < K.n → j < K.n → pb i = pb j → i = j) (hf : Found K pb nw byEv (fun _ => false) v) : VRes K nl byEv v := by
  cases v with
  | none =>
    intro i hi
    rw [← elig_el K pb nl nw h hinj i hi]
    cases he : K.elig pb nw i
    · rfl
    · have := hf i hi he; cases this
  | some v =>
    refine ⟨hf.1, by rw [← elig_el K pb nl nw h hinj v hf.1]; exact hf.2.1, fun i hi he => hf.2.2 i hi (by rw [elig_el K pb nl nw h hinj i hi]; exact he) rfl⟩

set_option maxHeartbeats 1600000 in
theorem zzVictim (K : Kinds) (Nm : Nat → ByteArray) (R : Nat → Option Addr) (S : Nat → Int) (ib : Nat) (base ev bts mx mbs : Int) (newest : ByteArray) (W : World)
    (hrow : W.rowIs ib 32 (K.n * 4) (kc Nm R K.L S K.Bt)) (hu : ∀ i, i < K.n → U64 W (R i) (K.L i) (K.Z i)) (hL : ∀ i, i < K.n → K.L i ≤ 1048576) (hn : K.n ≤ 4096)
    (hnm : ∀ i, i < K.n → K.nm i = (Nm i).data.toList ∧ (Nm i).size ≤ maxLen) (hnew : newest.size ≤ maxLen) :
    Calls Try.prog 17 #[.slice (some ⟨ib, 0, none⟩) K.n K.n, .int .u64 base, .int .i64 ev, .int .i64 bts, .int .i64 mx, .int .i64 mbs, .string newest] W fun e w' =>
      ∃ v : Option Nat, e = .returned (.tuple #[.int .i64 (match v with | none => -1 | some i => (i : Int)), .bool v.isSome]) ∧ VRes K newest.data.toList (decide (mx < ev)) v ∧ Below W.heap.size W w' := by
  have hmm := run_makeMap_hint
  have hmk := run_make_row' (P := Try.prog) 44 45 (.pointer none) 8 Try.underlying44 info45 rfl .i64 .i64 K.n (by omega) (by omega)
  have HU : Hid (∀ i, i < K.n → U64 W (R i) (K.L i) (K.Z i)) := hu
  have HL : Hid (∀ i, i < K.n → K.L i ≤ 1048576) := hL
  have HNM : Hid (∀ i, i < K.n → K.nm i = (Nm i).data.toList ∧ (Nm i).size ≤ maxLen) := hnm
  have HROW : Hid (W.rowIs ib 32 (K.n * 4) (kc Nm R K.L S K.Bt)) := hrow
  clear hrow hu hL hnm
  go_enter Try.func17, Try.ntmps17
  go_wp2_with fail
  clear hmm hmk
  go_loopw [18, 19] (fun i _ wr => ∃ k : Nat, k ≤ K.n ∧ i = .int .i64 k ∧ ZInv K base ev bts mx mbs W k wr) (fun i _ _ => K.n - (intOf i).toNat)
  case atStart => exact ⟨0, Nat.zero_le _, rfl, zinv_start K base ev bts mx mbs W⟩
  case round =>
    obtain ⟨k, hk, rfl, hI⟩ := hrel
    by_cases hlt : k < K.n
    · have hs32 := cells32
      have hs43 := cells43
      have hB := HROW.out.of_block (hI.below.block ib HROW.out.lt)
      have e0 : wr.cell? ⟨ib, k * 4, none⟩ = some (.string (Nm k)) := by rw [hB.cell (by omega), kc0]
      have e1 : wr.cell? ⟨ib, k * 4 + 1, none⟩ = some (.slice (R k) (K.L k) (K.L k)) := by rw [hB.cell (by omega), kc1]
      have e2 : wr.cell? ⟨ib, k * 4 + 2, none⟩ = some (.int .u64 (S k)) := by rw [hB.cell (by omega), kc2]
      have e3 : wr.cell? ⟨ib, k * 4 + 3, none⟩ = some (.int .i64 (K.Bt k)) := by rw [hB.cell (by omega), kc3]
      have HC : Hid (Calls Try.prog 26 #[.slice (R k) (K.L k) (K.L k), .int .u64 (S k), .int .i64 (K.Bt k)] wr.drew fun e w' => e = .returned (.pointer (some ⟨W.heap.size + 4 + 2 * k, 0, none⟩)) ∧ ZMid K base ev bts mx mbs W k w' ∧
          w'.cell? ⟨ib, k * 4 + 1, none⟩ = some (.slice (R k) (K.L k) (K.L k)) ∧ w'.cell? ⟨ib, k * 4 + 2, none⟩ = some (.int .u64 (S k)) ∧ w'.cell? ⟨ib, k * 4 + 3, none⟩ = some (.int .i64 (K.Bt k)) ∧ w'.cell? ⟨ib, k * 4, none⟩ = some (.string (Nm k))) := by
        have hu : U64 wr.drew (R k) (K.L k) (K.Z k) := ((HU.out k hlt).below hI.below (Nat.le_refl _)).below (B := wr.heap.size) (Below.refl _ _).drew (Nat.le_refl _)
        refine (kindHist_any (R k) (K.L k) (K.L k) (K.Z k) (S k) (K.Bt k) wr.drew hu (HL.out k hlt)).mono ?_
        rintro e w1 ⟨rfl, q1, b1, s1⟩
        have hsz := hI.size
        have b1' : Below wr.heap.size wr w1 := ((Below.refl wr.heap.size wr).drew).trans b1
        refine ⟨by rw [show wr.drew.heap.size = wr.heap.size from rfl, hsz]; congr 4; omega, zmid_of K base ev bts mx mbs W k wr w1 hI b1' s1 q1, ?_, ?_, ?_, ?_⟩
        · rw [b1'.cell (p := ⟨ib, k * 4 + 1, none⟩) hB.lt]; exact e1
        · rw [b1'.cell (p := ⟨ib, k * 4 + 2, none⟩) hB.lt]; exact e2
        · rw [b1'.cell (p := ⟨ib, k * 4 + 3, none⟩) hB.lt]; exact e3
        · rw [b1'.cell (p := ⟨ib, k * 4, none⟩) hB.lt]; exact e0
      clear hB
      go_wp2_with fail
      go_region_held3 (fun w' => w'.cell? ⟨ib, k * 4 + 1, none⟩ = some (.slice (R k) (K.L k) (K.L k)) ∧ w'.cell? ⟨ib, k * 4 + 2, none⟩ = some (.int .u64 (S k)) ∧ w'.cell? ⟨ib, k * 4 + 3, none⟩ = some (.int .i64 (K.Bt k))) (go_keep)
        (first | (go_at_call 26; refine HC.out.mono ?_; rintro e w1 ⟨rfl, hM, k1, k2, k3, k0⟩))
      clear HC e1 e2 e3 e0 k1 k2 k3
      have f1 : w1.cell? ⟨W.heap.size + 1 + 1, k, none⟩ = some (.pointer none) := by rw [hM.ptrs.cell (i := k) hlt]; simp
      have f2 : w1.frozen? ⟨W.heap.size + 1 + 1, k, none⟩ = false := hM.ptrs.frozen k
      have hibl : ib < W.heap.size := HROW.out.lt
      obtain ⟨D, hD1, hD2⟩ := hM.map
      have hIs := hD1.isMap
      have hD3 := (hD1.setCell (a := ⟨W.heap.size + 1 + 1, k, none⟩) (by show W.heap.size ≠ W.heap.size + 1 + 1; omega) (.pointer (some ⟨W.heap.size + 4 + 2 * k, 0, none⟩))).drew
      obtain ⟨w3, hrun, hown3, hturn3⟩ := hD3.store law9 Try.underlying41 (by unfold maxLen; omega) (WideMaps.keyOf_string_mk Try.underlying9 (HNM.out k hlt).2) (ptrElem_some (W.heap.size + 4 + 2 * k))
      have g0 : (w1.setCell ⟨W.heap.size + 1 + 1, k, none⟩ (.pointer (some ⟨W.heap.size + 4 + 2 * k, 0, none⟩))).cell? ⟨ib, k * 4, none⟩ = some (.string (Nm k)) := by rw [World.cell?_setCell_other _ _ _ _ (by intro e; injection e with e; omega)]; exact k0
      have g1 : (w1.setCell ⟨W.heap.size + 1 + 1, k, none⟩ (.pointer (some ⟨W.heap.size + 4 + 2 * k, 0, none⟩))).cell? ⟨W.heap.size + 1, 0, none⟩ = some (.map (some W.heap.size)) := by rw [World.cell?_setCell_other _ _ _ _ (by intro e; injection e with e; omega)]; exact hM.hist.cell (i := 0) (by omega)
      have HD : Hid (DInv { K with n := k } (fun j => W.heap.size + 4 + 2 * j) D) := hD2
      have HT3 : Hid (World.mapTurned (w1.setCell ⟨W.heap.size + 1 + 1, k, none⟩ (.pointer (some ⟨W.heap.size + 4 + 2 * k, 0, none⟩))).drew w3 W.heap.size) := hturn3
      have HO3 : Hid (w3.ownsMap Try.prog 9 ptrElem W.heap.size (k + 1) (D.put (.string (Nm k).data.toList) (.lit (.int .i64 (W.heap.size + 4 + 2 * k : Nat))))) := hown3
      have HIS : Hid (IsMap D) := hIs
      clear hD1 hD2 hD3 hown3 hturn3 k0 hIs
      go_wp2_with fail
      go_region
      go_wp2_with fail
      exact ⟨⟨k + 1, by omega, by go_num, zinv_next K Nm base ev bts mx mbs W k w1 w3 D hlt (HNM.out k hlt).1 hM HD.out HIS.out HT3.out HO3.out⟩, by simp [intOf]; omega⟩
    · obtain rfl : k = K.n := by omega
      clear HU HROW hk hlt
      have hs43 := cells43
      have hinj : ∀ i j, i < K.n → j < K.n → (fun j => W.heap.size + 4 + 2 * j) i = (fun j => W.heap.size + 4 + 2 * j) j → i = j := by
        intro i j _ _ h
        have h : W.heap.size + 4 + 2 * i = W.heap.size + 4 + 2 * j := h
        omega
      obtain ⟨D, hD1, hD2⟩ := hI.map
      obtain ⟨v, ps, hrun, hRv⟩ := hD1.lookup law9 Try.underlying41 (zero45 wr) (zd := .nil) (zp := []) rfl (WideMaps.keyOf_string_mk Try.underlying9 hnew)
      obtain ⟨nw, rfl, hnw⟩ := nw_of K _ _ D hD2 v ps hRv
      have g0 : wr.cell? ⟨W.heap.size + 1, 0, none⟩ = some (.map (some W.heap.size)) := hI.hist.cell (i := 0) (by omega)
      have HV := victim K (fun j => W.heap.size + 4 + 2 * j) (W.heap.size + 1) W.heap.size D ev mx nw _ wr g0 (hI.hist.cell (i := 2) (by omega)) (hI.hist.cell (i := 4) (by omega)) hD1 hD2.m1 hD2.m2 hD2.m3 hI.kh hinj HL.out rfl (by
        intro b hb
        rcases hnw with ⟨i, hi, _, e⟩ | ⟨e, _⟩
        · rw [e] at hb; injection hb with hb; exact ⟨i, hi.1, hb.symm⟩
        · rw [e] at hb; cases hb)
      have HVV : Hid (Calls _ _ _ _ _) := HV
      have HNW : Hid (NW K (fun j => W.heap.size + 4 + 2 * j) newest.data.toList nw) := hnw
      have HIN : Hid _ := hinj
      clear hD1 hD2 hRv HV hnw hinj
      go_wp2_with fail
      refine HVV.out.mono ?_
      rintro e w1 ⟨v, rfl, hf, hb1⟩
      have HVR : Hid (VRes K newest.data.toList (decide (mx < ev)) v) := vres_of K _ _ nw _ v HNW.out HIN.out hf
      have HB1 : Hid (Below W.heap.size W w1) := hI.below.trans (hb1.mono hI.below.size)
      have HP1 : Hid (w1.rowIs (W.heap.size + 2) 45 K.n (fun j => .pointer (if j < K.n then some ⟨W.heap.size + 4 + 2 * j, 0, none⟩ else none))) := hI.ptrs.of_block (hb1.block _ hI.ptrs.lt)
      have HKH : Hid (∀ j, j < K.n → KH w1 (W.heap.size + 4 + 2 * j) (K.L j) (K.Z j) (K.Bt j)) := fun j hj => (hI.kh j hj).below hb1
      clear HVV hI hb1 hf HNW HIN HNM HL hrun g0
      cases v with
      | none =>
        go_wp2_with fail
        go_ret2
        exact ⟨none, rfl, HVR.out, HB1.out⟩
      | some v =>
        have hvn : v < K.n := HVR.out.1.1
        go_wp2_with fail
        go_loop [21] (fun i => ∃ k : Nat, k ≤ v ∧ i = .int .i64 k) (fun i => K.n - (intOf i).toNat)
        case atStart => exact ⟨0, Nat.zero_le _, rfl⟩
        case round =>
          obtain ⟨k, hk, rfl⟩ := hrel
          have hkn : k < K.n := by omega
          have hc : w1.cell? ⟨W.heap.size + 1 + 1, k, none⟩ = some (.pointer (some ⟨W.heap.size + 4 + 2 * k, 0, none⟩)) := by
            have := HP1.out.cell (i := k) hkn
            rw [if_pos hkn] at this
            exact this
          have hpe := ptr_eql (HKH.out k hkn) (HKH.out v hvn)
          by_cases e : k = v
          · subst e
            rw [decide_eq_true rfl] at hpe
            go_wp2
            go_ret2
            exact ⟨some k, rfl, HVR.out, HB1.out⟩
          · rw [decide_eq_false (by omega)] at hpe
            go_wp2
            go_round
            case rel => exact ⟨k + 1, by omega, by go_num⟩
            case measure => simp [intOf]; omega
end Go.Proofs.Qxb6601359a.Vic
