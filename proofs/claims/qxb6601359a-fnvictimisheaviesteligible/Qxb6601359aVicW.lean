import Derived.Test.Qxb6601359aVicM
import Derived.Deep.CutBlock
namespace Go.Proofs.Qxb6601359a.Vic
open Go.ChangeShapes Go.WideShapes Go.ChangeAt Go.RowKit Go.Maps
open Go.Proofs.Qxb6601359a.Mem
set_option linter.unusedVariables false
set_option linter.unusedSimpArgs false

theorem info28 : (Try.prog.info? 28).map (fun i => (i.zero, i.size, i.bytes)) = some (some (.agg #[.string ByteArray.empty, .slice none 0 0, .int .u64 0, .int .i64 0]), 4, 56) := by kernel_rfl
theorem info32 : (Try.prog.info? 32).map (fun i => (i.zero, i.size, i.bytes)) = some (some (.agg #[.string ByteArray.empty, .slice none 0 0, .int .u64 0, .int .i64 0]), 4, 56) := by kernel_rfl
theorem info4 : (Try.prog.info? 4).map (fun i => (i.zero, i.size, i.bytes)) = some (some (.bool false), 1, 1) := by kernel_rfl

/-- The law's own copy of the kinds. -/
structure KOwn (B0 : Nat) (wx : World) (a : Option Addr) (n : Nat) (Nm : Nat → ByteArray) (R : Nat → Option Addr) (L : Nat → Nat) (Z : Nat → Nat → Int) (S B : Nat → Int) : Prop where
  row : (a = none ∧ n = 0) ∨ ∃ b, a = some ⟨b, 0, none⟩ ∧ B0 ≤ b ∧ wx.rowIs b 28 (n * 4) (kc Nm R L S B)
  u : ∀ i, i < n → U64 wx (R i) (L i) (Z i)

/-- .. while it is filled: k kinds are in. -/
def kcp (Nm : Nat → ByteArray) (R : Nat → Option Addr) (L : Nat → Nat) (S B : Nat → Int) (k j : Nat) : Value :=
  if j / 4 < k then kc Nm R L S B j else if j % 4 = 0 then .string ByteArray.empty else if j % 4 = 1 then .slice none 0 0 else if j % 4 = 2 then .int .u64 0 else .int .i64 0
structure KFill (b : Nat) (W1 wr : World) (n : Nat) (Nm : Nat → ByteArray) (R : Nat → Option Addr) (L : Nat → Nat) (Z : Nat → Nat → Int) (S B : Nat → Int) (k : Nat) : Prop where
  row : wr.rowIs b 28 (n * 4) (kcp Nm R L S B k)
  u : ∀ i, i < k → U64 wr (R i) (L i) (Z i) ∧ ∀ x, R i = some x → b < x.block
  below : Below W1.heap.size W1 wr

theorem kcp_zero (Nm : Nat → ByteArray) (R : Nat → Option Addr) (L : Nat → Nat) (S B : Nat → Int) (j : Nat) : (#[Value.string ByteArray.empty, .slice none 0 0, .int .u64 0, .int .i64 0] : Array Value)[j % (#[Value.string ByteArray.empty, .slice none 0 0, .int .u64 0, .int .i64 0] : Array Value).size]! = kcp Nm R L S B 0 j := by
  have e : (#[Value.string ByteArray.empty, .slice none 0 0, .int .u64 0, .int .i64 0] : Array Value).size = 4 := rfl
  rw [e]
  unfold kcp
  have h4 : j % 4 < 4 := Nat.mod_lt _ (by omega)
  rw [if_neg (by omega)]
  generalize j % 4 = m at h4
  have : m = 0 ∨ m = 1 ∨ m = 2 ∨ m = 3 := by omega
  rcases this with rfl | rfl | rfl | rfl <;> simp
theorem kfill_start (W1 : World) (n : Nat) (Nm : Nat → ByteArray) (R : Nat → Option Addr) (L : Nat → Nat) (Z : Nat → Nat → Int) (S B : Nat → Int) :
    KFill W1.heap.size W1 (W1.alloc (.cells (madeCells #[.string ByteArray.empty, .slice none 0 0, .int .u64 0, .int .i64 0] (n * 4)) 28)) n Nm R L Z S B 0 :=
  ⟨rowIs_made4 _ _ _ _ _ fun j => kcp_zero Nm R L S B j, fun i hi => absurd hi (by omega), (Below.refl _ _).alloc (Nat.le_refl _) _⟩

theorem U64.set {W : World} {a : Option Addr} {n : Nat} {z : Nat → Int} (h : U64 W a n z) (p : Addr) (v : Value) (hne : ∀ x, a = some x → p.block ≠ x.block) : U64 (W.setCell p v) a n z := by
  intro i hi
  obtain ⟨x, hx, hc⟩ := h i hi
  have hb : (x.add i).block = x.block := by unfold Addr.add; split <;> rfl
  exact ⟨x, hx, by rw [World.cell?_of_block (w := W) (Below.heap_setCell W p v (x.add i).block (by rw [hb]; exact (hne x hx).symm))]; exact hc⟩
theorem kfill_store (b : Nat) (W1 w1 : World) (n : Nat) (Nm : Nat → ByteArray) (R : Nat → Option Addr) (L : Nat → Nat) (Z : Nat → Nat → Int) (S B : Nat → Int) (k : Nat) (a' : Option Addr) (hW : W1.heap.size ≤ b)
    (h : KFill b W1 w1 n Nm R L Z S B k) (hu : U64 w1 a' (L k) (Z k)) (hlo : ∀ y, a' = some y → b < y.block) :
    KFill b W1 ((((w1.setCell ⟨b, k * 4, none⟩ (.string (Nm k))).setCell ⟨b, k * 4 + 1, none⟩ (.slice a' (L k) (L k))).setCell ⟨b, k * 4 + 2, none⟩ (.int .u64 (S k))).setCell ⟨b, k * 4 + 3, none⟩ (.int .i64 (B k))) n Nm (fun j => if j = k then a' else R j) L Z S B (k + 1) := by
  show KFill b W1 ((((w1.setCell ⟨b, k * 4, none⟩ (.string (Nm k))).setCell ⟨b, k * 4 + 1, none⟩ (.slice a' (L k) (L k))).setCell ⟨b, k * 4 + 1 + 1, none⟩ (.int .u64 (S k))).setCell ⟨b, k * 4 + 1 + 1 + 1, none⟩ (.int .i64 (B k))) n Nm _ L Z S B (k + 1)
  refine ⟨?_, fun i hi => ?_, (((h.below.setCell hW _).setCell hW _).setCell hW _).setCell hW _⟩
  · refine ((((h.row.set _ _).set _ _).set _ _).set _ _).congr fun j hj => ?_
    by_cases e3 : j = k * 4 + 1 + 1 + 1
    · rw [if_pos e3, e3]; unfold kcp; rw [if_pos (by omega), show k * 4 + 1 + 1 + 1 = k * 4 + 3 from rfl, kc3]
    rw [if_neg e3]
    by_cases e2 : j = k * 4 + 1 + 1
    · rw [if_pos e2, e2]; unfold kcp; rw [if_pos (by omega), show k * 4 + 1 + 1 = k * 4 + 2 from rfl, kc2]
    rw [if_neg e2]
    by_cases e1 : j = k * 4 + 1
    · rw [if_pos e1, e1]; unfold kcp; rw [if_pos (by omega), kc1, if_pos rfl]
    rw [if_neg e1]
    by_cases e0 : j = k * 4
    · rw [if_pos e0, e0]; unfold kcp; rw [if_pos (by omega), kc0]
    rw [if_neg e0]
    unfold kcp
    by_cases hlt : j / 4 < k
    · rw [if_pos hlt, if_pos (by omega)]
      unfold kc
      have : ¬ j / 4 = k := by omega
      simp only [if_neg this]
    · rw [if_neg hlt, if_neg (show ¬ j / 4 < k + 1 by omega)]
  · have hne : ∀ i, i < k → ∀ (o : Nat) x, R i = some x → (⟨b, o, none⟩ : Addr).block ≠ x.block := fun i hi o x hx => by have := (h.u i hi).2 x hx; show b ≠ x.block; omega
    have hne' : ∀ (o : Nat) x, a' = some x → (⟨b, o, none⟩ : Addr).block ≠ x.block := fun o x hx => by have := hlo x hx; show b ≠ x.block; omega
    by_cases e : i = k
    · subst e
      simp only [if_true]
      exact ⟨(((hu.set _ _ (hne' _)).set _ _ (hne' _)).set _ _ (hne' _)).set _ _ (hne' _), hlo⟩
    · simp only [if_neg e]
      have hi' : i < k := by omega
      exact ⟨((((h.u i hi').1.set _ _ (hne i hi' _)).set _ _ (hne i hi' _)).set _ _ (hne i hi' _)).set _ _ (hne i hi' _), (h.u i hi').2⟩
theorem kfill_there (b : Nat) (W1 w1 : World) (n : Nat) (Nm : Nat → ByteArray) (R : Nat → Option Addr) (L : Nat → Nat) (Z : Nat → Nat → Int) (S B : Nat → Int) (k q : Nat) (hk : k < n) (h : KFill b W1 w1 n Nm R L Z S B q) : w1.there b (k * 4) 4 :=
  fun j hj => ⟨by rw [h.row.cell (i := k * 4 + j) (by omega)]; rfl, h.row.frozen _⟩
theorem far_cells (w : World) (b o : Nat) (v0 v1 v2 v3 : Value) (p : Addr) (h : p.block ≠ b) : ((((w.setCell ⟨b, o, none⟩ v0).setCell ⟨b, o + 1, none⟩ v1).setCell ⟨b, o + 2, none⟩ v2).setCell ⟨b, o + 3, none⟩ v3).cell? p = w.cell? p := by
  exact World.cell?_of_block (w := w) ((((Below.heap_setCell _ ⟨b, o + 3, none⟩ v3 p.block h).trans (Below.heap_setCell _ ⟨b, o + 2, none⟩ v2 p.block h)).trans (Below.heap_setCell _ ⟨b, o + 1, none⟩ v1 p.block h)).trans (Below.heap_setCell _ ⟨b, o, none⟩ v0 p.block h))
/-- What the four stores ask, one behind the other. -/
def Stores4 (w : World) (b o : Nat) (v0 v1 v2 v3 : Value) : Prop :=
  ∃ c0 c1 c2 c3, w.cell? ⟨b, o, none⟩ = some c0 ∧ w.frozen? ⟨b, o, none⟩ = false ∧
    (w.setCell ⟨b, o, none⟩ v0).cell? ⟨b, o + 1, none⟩ = some c1 ∧ (w.setCell ⟨b, o, none⟩ v0).frozen? ⟨b, o + 1, none⟩ = false ∧
    ((w.setCell ⟨b, o, none⟩ v0).setCell ⟨b, o + 1, none⟩ v1).cell? ⟨b, o + 2, none⟩ = some c2 ∧ ((w.setCell ⟨b, o, none⟩ v0).setCell ⟨b, o + 1, none⟩ v1).frozen? ⟨b, o + 2, none⟩ = false ∧
    (((w.setCell ⟨b, o, none⟩ v0).setCell ⟨b, o + 1, none⟩ v1).setCell ⟨b, o + 2, none⟩ v2).cell? ⟨b, o + 3, none⟩ = some c3 ∧ (((w.setCell ⟨b, o, none⟩ v0).setCell ⟨b, o + 1, none⟩ v1).setCell ⟨b, o + 2, none⟩ v2).frozen? ⟨b, o + 3, none⟩ = false
theorem stores4 {w : World} {b n : Nat} {t : TypeId} {f : Nat → Value} (h : w.rowIs b t n f) (o : Nat) (ho : o + 3 < n) (v0 v1 v2 v3 : Value) : Stores4 w b o v0 v1 v2 v3 := by
  have h1 := h.set o v0
  have h2 := h1.set (o + 1) v1
  have h3 := h2.set (o + 2) v2
  exact ⟨_, _, _, _, h.cell (i := o) (by omega), h.frozen _, h1.cell (i := o + 1) (by omega), h1.frozen _, h2.cell (i := o + 2) (by omega), h2.frozen _, h3.cell (i := o + 3) (by omega), h3.frozen _⟩
theorem size28 : (Try.prog.info? 28).map (·.size) = some 4 := by kernel_rfl
theorem kfill_end (b : Nat) (W1 w1 : World) (n : Nat) (Nm : Nat → ByteArray) (R : Nat → Option Addr) (L : Nat → Nat) (Z : Nat → Nat → Int) (S B : Nat → Int) (hW : W1.heap.size ≤ b) (h : KFill b W1 w1 n Nm R L Z S B n) : KOwn W1.heap.size w1 (some ⟨b, 0, none⟩) n Nm R L Z S B :=
  ⟨Or.inr ⟨b, rfl, hW, h.row.congr fun j hj => by unfold kcp; rw [if_pos (by omega)]⟩, fun i hi => (h.u i hi).1⟩

/-- The kinds as plain data. -/
def mkK (n : Nat) (Nm : Nat → ByteArray) (L : Nat → Nat) (Z : Nat → Nat → Int) (B : Nat → Int) : Kinds := ⟨n, fun i => (Nm i).data.toList, L, Z, B⟩
/-- No entry from j on bears i's name. -/
def liveFrom (K : Kinds) (i j : Nat) : Bool := (List.range (K.n - j)).all fun d => decide (K.nm (j + d) ≠ K.nm i)
theorem liveFrom_end (K : Kinds) (i j : Nat) (h : K.n ≤ j) : liveFrom K i j = true := by
  unfold liveFrom; rw [show K.n - j = 0 from by omega]; rfl
theorem liveFrom_iff (K : Kinds) (i j : Nat) : liveFrom K i j = true ↔ ∀ q, j ≤ q → q < K.n → K.nm q ≠ K.nm i := by
  unfold liveFrom
  rw [List.all_eq_true]
  constructor
  · intro h q hq hn
    have := h (q - j) (List.mem_range.2 (by omega))
    rw [show j + (q - j) = q from by omega] at this
    exact of_decide_eq_true this
  · intro h d hd
    have := List.mem_range.1 hd
    exact decide_eq_true (h (j + d) (by omega) (by omega))
theorem liveFrom_hit (K : Kinds) (i j : Nat) (hj : j < K.n) (h : K.nm j = K.nm i) : liveFrom K i j = false := by
  cases e : liveFrom K i j
  · rfl
  · exact absurd h ((liveFrom_iff K i j).1 e j (Nat.le_refl _) hj)
theorem liveFrom_miss (K : Kinds) (i j : Nat) (hj : j < K.n) (h : K.nm j ≠ K.nm i) : liveFrom K i j = liveFrom K i (j + 1) := by
  rw [Bool.eq_iff_iff, liveFrom_iff, liveFrom_iff]
  constructor
  · intro h1 q hq hn; exact h1 q (by omega) hn
  · intro h1 q hq hn
    by_cases e : q = j
    · subst e; exact h
    · exact h1 q (by omega) hn
/-- What 'elig' holds. -/
def Kinds.ElB (K : Kinds) (nl : List UInt8) (i : Nat) : Bool := liveFrom K i (i + 1) && K.El nl i
def someEl (K : Kinds) (nl : List UInt8) (k : Nat) : Bool := (List.range k).any fun i => K.ElB nl i
theorem someEl_next (K : Kinds) (nl : List UInt8) (k : Nat) : someEl K nl (k + 1) = (someEl K nl k || K.ElB nl k) := by
  unfold someEl; rw [List.range_succ]; simp
/-- The memory while 'elig' is filled: k of its cells are. -/
structure EInv (wc wr : World) (n : Nat) (K : Kinds) (nl : List UInt8) (k : Nat) : Prop where
  row : wr.rowIs wc.heap.size 4 n (fun j => .bool (if j < k then K.ElB nl j else false))
  below : Below wc.heap.size wc wr
theorem einv_start (wc : World) (n : Nat) (K : Kinds) (nl : List UInt8) : EInv wc (wc.alloc (.cells (madeCells #[.bool false] n) 4)) n K nl 0 :=
  ⟨(World.rowIs_made wc (.bool false) n 4).congr fun j hj => by simp, (Below.refl _ _).alloc (Nat.le_refl _) _⟩
theorem EInv.drewN {wc wr : World} {n : Nat} {K : Kinds} {nl : List UInt8} {k : Nat} (h : EInv wc wr n K nl k) (m : Nat) : EInv wc (wr.drewN m) n K nl k := ⟨h.row, below_drewN' h.below m⟩
theorem einv_next (wc wr : World) (n : Nat) (K : Kinds) (nl : List UInt8) (k : Nat) (h : EInv wc wr n K nl k) (b : Bool) (hb : b = K.ElB nl k) : EInv wc (wr.setCell ⟨wc.heap.size, k, none⟩ (.bool b)) n K nl (k + 1) := by
  refine ⟨(h.row.set k _).congr fun j hj => ?_, h.below.setCell (Nat.le_refl _) _⟩
  by_cases e : j = k
  · subst e; rw [if_pos rfl, if_pos (by omega), hb]
  · rw [if_neg e]
    by_cases e2 : j < k
    · rw [if_pos e2, if_pos (by omega)]
    · rw [if_neg e2, if_neg (by omega)]
theorem bytes_beq (a b : ByteArray) : (a.toList == b.toList) = decide (a.data.toList = b.data.toList) := by
  rw [ByteArray.toList_eq, ByteArray.toList_eq, Bool.eq_iff_iff, beq_iff_eq, decide_eq_true_eq]

theorem kcp_store {w1 : World} {b : Nat} {t : TypeId} (n : Nat) (Nm : Nat → ByteArray) (R : Nat → Option Addr) (L : Nat → Nat) (S B : Nat → Int) (k : Nat) (h : w1.rowIs b t (n * 4) (kcp Nm R L S B k)) :
    ((((w1.setCell ⟨b, k * 4, none⟩ (.string (Nm k))).setCell ⟨b, k * 4 + 1, none⟩ (.slice (R k) (L k) (L k))).setCell ⟨b, k * 4 + 2, none⟩ (.int .u64 (S k))).setCell ⟨b, k * 4 + 3, none⟩ (.int .i64 (B k))).rowIs b t (n * 4) (kcp Nm R L S B (k + 1)) := by
  refine ((((h.set _ _).set _ _).set _ _).set _ _).congr fun j hj => ?_
  by_cases e3 : j = k * 4 + 3
  · rw [if_pos e3, e3]; unfold kcp; rw [if_pos (by omega), kc3]
  rw [if_neg e3]
  by_cases e2 : j = k * 4 + 2
  · rw [if_pos e2, e2]; unfold kcp; rw [if_pos (by omega), kc2]
  rw [if_neg e2]
  by_cases e1 : j = k * 4 + 1
  · rw [if_pos e1, e1]; unfold kcp; rw [if_pos (by omega), kc1]
  rw [if_neg e1]
  by_cases e0 : j = k * 4
  · rw [if_pos e0, e0]; unfold kcp; rw [if_pos (by omega), kc0]
  rw [if_neg e0]
  unfold kcp
  by_cases hlt : j / 4 < k
  · rw [if_pos hlt, if_pos (by omega)]
  · rw [if_neg hlt, if_neg (show ¬ j / 4 < k + 1 by omega)]

theorem vres_none (K : Kinds) (nl : List UInt8) (byEv : Bool) (h : VRes K nl byEv none) : someEl K nl K.n = false := by
  cases e : someEl K nl K.n
  · rfl
  · unfold someEl at e
    obtain ⟨i, hi, he⟩ := List.any_eq_true.1 e
    have hi := List.mem_range.1 hi
    unfold Kinds.ElB at he
    rw [Bool.and_eq_true] at he
    have hl : K.Live i := ⟨hi, fun j hj hn => (liveFrom_iff K i (i + 1)).1 he.1 j hj hn⟩
    rw [h i hl] at he
    cases he.2
theorem live_elb (K : Kinds) (nl : List UInt8) (i : Nat) : K.ElB nl i = true ∧ i < K.n ↔ K.Live i ∧ K.El nl i = true := by
  unfold Kinds.ElB
  rw [Bool.and_eq_true]
  constructor
  · rintro ⟨⟨h1, h2⟩, hi⟩
    exact ⟨⟨hi, fun j hj hn => (liveFrom_iff K i (i + 1)).1 h1 j hj hn⟩, h2⟩
  · rintro ⟨h1, h2⟩
    exact ⟨⟨(liveFrom_iff K i (i + 1)).2 fun q hq hn => h1.2 q hq hn, h2⟩, h1.1⟩
theorem vres_some (K : Kinds) (nl : List UInt8) (byEv : Bool) (v : Nat) (h : VRes K nl byEv (some v)) : someEl K nl K.n = true ∧ v < K.n ∧ K.ElB nl v = true ∧ ∀ j, j < K.n → K.ElB nl j = true → K.beats byEv j v = false := by
  have hv := (live_elb K nl v).2 ⟨h.1, h.2.1⟩
  refine ⟨?_, hv.2, hv.1, fun j hj he => ?_⟩
  · unfold someEl; rw [List.any_eq_true]; exact ⟨v, List.mem_range.2 hv.2, hv.1⟩
  · have hj' := (live_elb K nl j).1 ⟨he, hj⟩
    exact h.2.2 j hj'.1 hj'.2
def wg (L : Nat → Nat) (B : Nat → Int) (byEv : Bool) (i : Nat) : Int := if byEv = true then (L i : Int) else B i
theorem beats_law (n : Nat) (Nm : Nat → ByteArray) (L : Nat → Nat) (Z : Nat → Nat → Int) (B : Nat → Int) (byEv : Bool) (j v : Nat) (h : (mkK n Nm L Z B).beats byEv j v = false) :
    ¬ wg L B byEv v < wg L B byEv j ∧ (wg L B byEv j = wg L B byEv v → ¬ Z j 0 < Z v 0) := by
  unfold Kinds.beats mkK at h
  unfold wg
  cases byEv
  · simp only [ow, Bool.false_eq_true, if_false] at *
    split at h
    · simp only [decide_eq_false_iff_not] at h; constructor <;> omega
    · simp only [decide_eq_false_iff_not] at h; constructor <;> omega
  · simp only [ow, if_true] at *
    split at h
    · simp only [decide_eq_false_iff_not] at h; constructor <;> omega
    · simp only [decide_eq_false_iff_not] at h; constructor <;> omega
theorem el_pos (n : Nat) (Nm : Nat → ByteArray) (L : Nat → Nat) (Z : Nat → Nat → Int) (B : Nat → Int) (nl : List UInt8) (i : Nat) (h : (mkK n Nm L Z B).ElB nl i = true) : 0 < L i := by
  unfold Kinds.ElB Kinds.El mkK at h
  rw [Bool.and_eq_true, Bool.and_eq_true] at h
  exact of_decide_eq_true h.2.1
theorem U64.head {W : World} {a : Option Addr} {n : Nat} {z : Nat → Int} (h : U64 W a n z) (h0 : 0 < n) : ∃ x, a = some x ∧ W.cell? x = some (.int .u64 (z 0)) := by
  obtain ⟨x, hx, hc⟩ := h 0 h0
  exact ⟨x, hx, hc⟩

set_option maxRecDepth 100000 in
set_option maxHeartbeats 40000000 in
theorem walk (a : Option Addr) (n cap : Nat) (Nm : Nat → ByteArray) (R : Nat → Option Addr) (L C : Nat → Nat) (Z : Nat → Nat → Int) (S B : Nat → Int) (base ev bts mx mbs : Int) (newest : ByteArray) (W : World)
    (h : KIn W a n Nm R L C Z S B) (hn : n ≤ 9223372036854775807) (hnil : a = none → n = 0) (hnew : newest.size ≤ 9223372036854775807) :
    Calls Try.prog 6 #[.slice a n cap, .int .u64 base, .int .i64 ev, .int .i64 bts, .int .i64 mx, .int .i64 mbs, .string newest] W fun e w' => e = .returned (.bool true) ∧ Below W.heap.size W w' := by
  have hs28 := cells28
  have HB15 : Hid (∀ w, w = W → Calls Try.prog 15 #[.slice a n cap, .int .u64 base, .int .i64 ev, .int .i64 bts, .int .i64 mx, .int .i64 mbs, .string newest] w fun e w' => SomeBool e ∧ w' = W) := by
    intro w e; subst e; exact bytes15 a n cap Nm R L C Z S B base ev bts mx mbs newest w h hn hnew
  have hnn : ∀ w, (binOp .neq 23 (.slice a n cap) (.slice none 0 0)).run Try.prog w = .ok (.bool (!a.isNone)) w := by
    intro w
    simp only [binOp]
    simp [Op.equal, Op.maxDepth, Lib.run_equalIn_slice_nil w 9999 23 28 a n cap 0 0 Try.underlying23]
  go_enter Try.func6, Try.ntmps6
  go_wp2_with fail
  refine (HB15.out _ rfl).mono ?_
  rintro e w' ⟨⟨b, rfl⟩, rfl⟩
  clear HB15
  cases b
  · go_wp2_with fail
    go_ret
    exact ⟨rfl, Below.refl _ _⟩
  by_cases t1 : (4096 : Int) < n
  · clear h hnn
    go_wp2_with fail
    go_ret
    exact ⟨rfl, Below.refl _ _⟩
  by_cases t2 : (1048576 : Int) < newest.size
  · clear h hnn
    go_wp2_with fail
    go_ret
    exact ⟨rfl, Below.refl _ _⟩
  go_wp2_with fail
  have HNN : Hid (∀ w, (binOp .neq 23 (.slice a n cap) (.slice none 0 0)).run Try.prog w = .ok (.bool (!a.isNone)) w) := hnn
  clear hnn
  go_loopw [15, 16] (fun s i wr => ∃ (k m : Nat) (q : Int), k ≤ n ∧ i = .int .i64 k ∧ 0 ≤ q ∧ q ≤ 2000000 ∧ s = .int .i64 q ∧ Hid (∀ j, j < k → (Nm j).size ≤ 1048576 ∧ L j ≤ 65536) ∧ wr = w'.drewN m) (fun _ i _ => n - (intOf i).toNat)
  case atStart => exact ⟨0, 0, _, Nat.zero_le _, rfl, by omega, by omega, rfl, (fun j hj => absurd hj (by omega) : ∀ j, j < 0 → (Nm j).size ≤ 1048576 ∧ L j ≤ 65536), rfl⟩
  case round =>
    obtain ⟨k, m, q, hk, rfl, hq0, hq1, rfl, HJ, rfl⟩ := hrel
    by_cases hlt : k < n
    · as_aux_lemma =>
      obtain ⟨x, rfl, e0, e1, e2, e3⟩ := h.cs k hlt
      obtain ⟨z1, z2⟩ := h.sz k hlt
      by_cases t3 : (1048576 : Int) < (Nm k).size
      · go_wp2_with fail
        go_ret
        exact ⟨rfl, below_drewN' (Below.refl _ _) _⟩
      by_cases t4 : (65536 : Int) < L k
      · go_wp2_with fail
        go_ret
        exact ⟨rfl, below_drewN' (Below.refl _ _) _⟩
      by_cases t5 : (1048576 : Int) < q + ((Nm k).size + 8 * (L k : Int))
      · go_wp2_with fail
        go_quiet (fail)
        go_wp2_with fail
        go_ret
        exact ⟨rfl, below_drewN' (Below.refl _ _) _⟩
      · go_wp2_with fail
        go_quiet (fail)
        go_wp2_with fail
        go_roundw
        case rel =>
          refine ⟨k + 1, _, q + ((Nm k).size + 8 * (L k : Int)), by omega, by go_num, by omega, by omega, rfl, ?_, rfl⟩
          exact (fun j hj => by
            by_cases e : j = k
            · subst e; omega
            · exact HJ.out j (by omega) : ∀ j, j < k + 1 → (Nm j).size ≤ 1048576 ∧ L j ≤ 65536)
        case measure => simp [intOf]; omega
    · have ekn : n = k := by omega
      subst ekn
      have hnn := HNN.out
      have h := h.below (below_drewN' (Below.refl _ _) m)
      have HB0 : Hid (Below w'.heap.size w' (w'.drewN m)) := below_drewN' (Below.refl _ _) m
      have HSZ0 : Hid ((w'.drewN m).heap.size = w'.heap.size) := (show _ = _ from rfl)
      generalize w'.drewN m = W1 at *
      go_upto_if 98 with fail
      clear hnn HNN
      go_cut [17] (fun v wx => ∃ (a' : Option Addr) (R' : Nat → Option Addr), v = .slice a' n n ∧ KOwn W1.heap.size wx a' n Nm R' L Z S B ∧ Below W1.heap.size W1 wx)
      case first => as_aux_lemma =>
        cases a with
        | none =>
          obtain rfl : n = 0 := hnil rfl
          go_wp2_with fail
          go_meet
          case rel => exact ⟨none, fun _ => none, rfl, ⟨Or.inl ⟨rfl, rfl⟩, fun i hi => absurd hi (by omega)⟩, Below.refl _ _⟩
        | some x =>
          simp only [Option.isSome_some]
          have hmk : ∀ w : World, (Instr.makeSlice 23 (.int .i64 (n : Int)) (.int .i64 (n : Int))).run Try.prog w = .ok (.slice (some ⟨w.heap.size, 0, none⟩) n n) (w.alloc (.cells (madeCells #[.string ByteArray.empty, .slice none 0 0, .int .u64 0, .int .i64 0] (n * 4)) 28)) := by
            intro w
            obtain ⟨i, hi, hzz⟩ := Option.map_eq_some_iff.1 info28
            simp only [Prod.mk.injEq] at hzz
            obtain ⟨hz, hs, hb⟩ := hzz
            have := run_make (P := Try.prog) w 23 28 i _ Try.underlying23 hi hz .i64 .i64 n n (by omega) (by omega) (by rw [hb]; omega) (by omega)
            rw [hs, show (Value.agg #[.string ByteArray.empty, .slice none 0 0, .int .u64 0, .int .i64 0]).cells = #[.string ByteArray.empty, .slice none 0 0, .int .u64 0, .int .i64 0] from by simp [Value.cells]] at this
            simpa using this
          go_wp2_with fail
          clear hmk
          go_loopw [18] (fun i wr => ∃ (k : Nat) (R' : Nat → Option Addr), k ≤ n ∧ i = .int .i64 k ∧ KFill W1.heap.size W1 wr n Nm R' L Z S B k) (fun i _ => n - (intOf i).toNat)
          case atStart => exact ⟨0, fun _ => none, Nat.zero_le _, rfl, kfill_start W1 n Nm _ L Z S B⟩
          case round =>
            obtain ⟨k, R', hk, rfl, hF⟩ := hrel
            by_cases hlt : k < n
            · as_aux_lemma =>
              have hb0 : W1.heap.size < wr.heap.size := hF.row.lt
              obtain ⟨x', hx', d0, d1, d2, d3⟩ := h.cs k hlt
              cases hx'
              have hxb := lt_of_cell d0
              have e0 : wr.cell? (x.add (k * 4)) = some (.string (Nm k)) := by rw [hF.below.cell (lt_of_cell d0)]; exact d0
              have e1 : wr.cell? ⟨(x.add (k * 4)).block, (x.add (k * 4)).off + 1, none⟩ = some (.slice (R k) (L k) (C k)) := by rw [hF.below.cell (lt_of_cell d1)]; exact d1
              have e2 : wr.cell? ⟨(x.add (k * 4)).block, (x.add (k * 4)).off + 2, none⟩ = some (.int .u64 (S k)) := by rw [hF.below.cell (lt_of_cell d2)]; exact d2
              have e3 : wr.cell? ⟨(x.add (k * 4)).block, (x.add (k * 4)).off + 3, none⟩ = some (.int .i64 (B k)) := by rw [hF.below.cell (lt_of_cell d3)]; exact d3
              clear d0 d1 d2 d3
              have HC : Hid (Calls Try.prog 16 #[.slice (R k) (L k) (C k)] wr.drew fun e w' => ∃ a' : Option Addr, e = .returned (.slice a' (L k) (L k)) ∧ Stores4 w' W1.heap.size (k * 4) (.string (Nm k)) (.slice a' (L k) (L k)) (.int .u64 (S k)) (.int .i64 (B k)) ∧
                  KFill W1.heap.size W1 ((((w'.setCell ⟨W1.heap.size, k * 4, none⟩ (.string (Nm k))).setCell ⟨W1.heap.size, k * 4 + 1, none⟩ (.slice a' (L k) (L k))).setCell ⟨W1.heap.size, k * 4 + 2, none⟩ (.int .u64 (S k))).setCell ⟨W1.heap.size, k * 4 + 3, none⟩ (.int .i64 (B k))) n Nm (fun j => if j = k then a' else R' j) L Z S B (k + 1) ∧
                  (w'.cell? (x.add (k * 4)) = some (.string (Nm k)) ∧ w'.cell? ⟨(x.add (k * 4)).block, (x.add (k * 4)).off + 1, none⟩ = some (.slice (R k) (L k) (C k)) ∧ w'.cell? ⟨(x.add (k * 4)).block, (x.add (k * 4)).off + 2, none⟩ = some (.int .u64 (S k)) ∧ w'.cell? ⟨(x.add (k * 4)).block, (x.add (k * 4)).off + 3, none⟩ = some (.int .i64 (B k))) ∧
                  (((((w'.setCell ⟨W1.heap.size, k * 4, none⟩ (.string (Nm k))).setCell ⟨W1.heap.size, k * 4 + 1, none⟩ (.slice a' (L k) (L k))).setCell ⟨W1.heap.size, k * 4 + 2, none⟩ (.int .u64 (S k))).setCell ⟨W1.heap.size, k * 4 + 3, none⟩ (.int .i64 (B k))).cell? (x.add (k * 4)) = some (.string (Nm k)) ∧ ((((w'.setCell ⟨W1.heap.size, k * 4, none⟩ (.string (Nm k))).setCell ⟨W1.heap.size, k * 4 + 1, none⟩ (.slice a' (L k) (L k))).setCell ⟨W1.heap.size, k * 4 + 2, none⟩ (.int .u64 (S k))).setCell ⟨W1.heap.size, k * 4 + 3, none⟩ (.int .i64 (B k))).cell? ⟨(x.add (k * 4)).block, (x.add (k * 4)).off + 1, none⟩ = some (.slice (R k) (L k) (C k)) ∧ ((((w'.setCell ⟨W1.heap.size, k * 4, none⟩ (.string (Nm k))).setCell ⟨W1.heap.size, k * 4 + 1, none⟩ (.slice a' (L k) (L k))).setCell ⟨W1.heap.size, k * 4 + 2, none⟩ (.int .u64 (S k))).setCell ⟨W1.heap.size, k * 4 + 3, none⟩ (.int .i64 (B k))).cell? ⟨(x.add (k * 4)).block, (x.add (k * 4)).off + 2, none⟩ = some (.int .u64 (S k)) ∧ ((((w'.setCell ⟨W1.heap.size, k * 4, none⟩ (.string (Nm k))).setCell ⟨W1.heap.size, k * 4 + 1, none⟩ (.slice a' (L k) (L k))).setCell ⟨W1.heap.size, k * 4 + 2, none⟩ (.int .u64 (S k))).setCell ⟨W1.heap.size, k * 4 + 3, none⟩ (.int .i64 (B k))).cell? ⟨(x.add (k * 4)).block, (x.add (k * 4)).off + 3, none⟩ = some (.int .i64 (B k)))) := by
                have hu : U64 wr.drew (R k) (L k) (Z k) := ((h.u k hlt).below hF.below (Nat.le_refl _)).below (B := wr.heap.size) (Below.refl _ _).drew (Nat.le_refl _)
                refine (clone_any (R k) (L k) (C k) (Z k) wr.drew hu (h.nil k hlt) (by have := (HJ.out k hlt).2; omega)).mono ?_
                rintro e v1 ⟨a', rfl, q1, b1, s1, _⟩
                have b1' : Below wr.heap.size wr v1 := ((Below.refl wr.heap.size wr).drew).trans b1
                have hF1 : KFill W1.heap.size W1 v1 n Nm R' L Z S B k := ⟨hF.row.of_block (b1'.block _ hF.row.lt), fun i hi => ⟨(hF.u i hi).1.below b1' (Nat.le_refl _), (hF.u i hi).2⟩, hF.below.trans (b1'.mono (by omega))⟩
                have k0 : v1.cell? (x.add (k * 4)) = some (.string (Nm k)) := by rw [b1'.cell (lt_of_cell e0)]; exact e0
                have k1 : v1.cell? ⟨(x.add (k * 4)).block, (x.add (k * 4)).off + 1, none⟩ = some (.slice (R k) (L k) (C k)) := by rw [b1'.cell (lt_of_cell e1)]; exact e1
                have k2 : v1.cell? ⟨(x.add (k * 4)).block, (x.add (k * 4)).off + 2, none⟩ = some (.int .u64 (S k)) := by rw [b1'.cell (lt_of_cell e2)]; exact e2
                have k3 : v1.cell? ⟨(x.add (k * 4)).block, (x.add (k * 4)).off + 3, none⟩ = some (.int .i64 (B k)) := by rw [b1'.cell (lt_of_cell e3)]; exact e3
                have hne : (x.add (k * 4)).block ≠ W1.heap.size := by omega
                refine ⟨a', rfl, stores4 hF1.row (k * 4) (by omega) _ _ _ _, kfill_store W1.heap.size W1 v1 n Nm R' L Z S B k a' (Nat.le_refl _) hF1 q1 (fun y hy => Nat.lt_of_lt_of_le hb0 (s1 y hy)), ⟨k0, k1, k2, k3⟩, ?_, ?_, ?_, ?_⟩
                · exact (far_cells _ _ _ _ _ _ _ _ (by exact hne)).trans k0
                · exact (far_cells _ _ _ _ _ _ _ _ (by exact hne)).trans k1
                · exact (far_cells _ _ _ _ _ _ _ _ (by exact hne)).trans k2
                · exact (far_cells _ _ _ _ _ _ _ _ (by exact hne)).trans k3
              clear hxb
              go_wp2_with fail
              go_region_held3 (fun w' => w'.cell? (x.add (k * 4)) = some (.string (Nm k)) ∧ w'.cell? ⟨(x.add (k * 4)).block, (x.add (k * 4)).off + 1, none⟩ = some (.slice (R k) (L k) (C k)) ∧ w'.cell? ⟨(x.add (k * 4)).block, (x.add (k * 4)).off + 2, none⟩ = some (.int .u64 (S k)) ∧ w'.cell? ⟨(x.add (k * 4)).block, (x.add (k * 4)).off + 3, none⟩ = some (.int .i64 (B k))) (go_keep)
                (first | (go_at_call 16; refine HC.out.mono ?_; rintro e w1 ⟨a', rfl, ⟨c0, c1, c2, c3, g0, g1, g2, g3, g4, g5, g6, g7⟩, hM, ⟨k0, k1, k2, k3⟩, ⟨m0, m1, m2, m3⟩⟩))
              clear HC e0 e1 e2 e3 k0 k1 k2 k3 m0 m1 m2 m3 g0 g1 g2 g3 g4 g5 g6 g7
              go_wp2_with fail
              go_roundw
              case rel => exact ⟨k + 1, _, by omega, by go_num, hM⟩
              case measure => simp [intOf]; omega
            · have ekn : n = k := by omega
              subst ekn
              go_wp2_with fail
              go_meet
              case rel => exact ⟨some ⟨W1.heap.size, 0, none⟩, R', rfl, kfill_end _ _ _ _ _ _ _ _ _ _ (Nat.le_refl _) hF, hF.below⟩
      case rest =>
        obtain ⟨a', R', rfl, hO, hB1⟩ := hcut
        generalize wc = V0 at *
        have HBW : Hid (Below w'.heap.size w' V0) := HB0.out.trans (hB1.mono (by rw [HSZ0.out]; exact Nat.le_refl _))
        have HJ' : Hid (∀ j, j < n → (Nm j).size ≤ 1048576 ∧ L j ≤ 65536) := HJ
        clear h hB1 HB0 HSZ0 hnil
        have hmk4 := run_make_row' (P := Try.prog) 30 4 (.bool false) 1 Try.underlying30 info4 rfl .i64 .i64 n (by omega) (by omega)
        go_wp2_with fail
        clear hmk4
        obtain ⟨K, hK⟩ : ∃ K, K = mkK n Nm L Z B := ⟨_, rfl⟩
        have KN : Hid (K.n = n) := by rw [hK]; exact (show _ = _ from rfl)
        have KNM : Hid (∀ i, K.nm i = (Nm i).data.toList) := by intro i; rw [hK]; rfl
        have KL : Hid (∀ i, K.L i = L i) := by intro i; rw [hK]; rfl
        have KK : Hid (K = mkK n Nm L Z B) := hK
        clear hK
        go_loopw [21, 22, 23, 24] (fun s i _ _ wr => ∃ k : Nat, k ≤ n ∧ i = .int .i64 k ∧ s = .bool (someEl K newest.data.toList k) ∧ EInv V0 wr n K newest.data.toList k) (fun _ i _ _ _ => n - (intOf i).toNat)
        case atStart => exact ⟨0, Nat.zero_le _, rfl, rfl, einv_start V0 n K _⟩
        case round =>
          obtain ⟨k, hk, rfl, rfl, hE⟩ := hrel
          by_cases hlt : k < n
          · as_aux_lemma =>
            rcases hO.row with ⟨_, h0⟩ | ⟨b, rfl, hb0, hrow⟩
            · omega
            have HROW : Hid (V0.rowIs b 28 (n * 4) (kc Nm R' L S B)) := hrow
            clear hrow
            go_upto_block 6 with fail
            go_cut [23, 24] (fun v _ wx => v = .bool (liveFrom K k (k + 1)) ∧ EInv V0 wx n K newest.data.toList k)
            case first => as_aux_lemma =>
              go_wp2_with fail
              go_loopw [23, 24] (fun v j wx => ∃ (q m : Nat), k + 1 ≤ q ∧ q ≤ n ∧ j = .int .i64 q ∧ v = .bool true ∧ Hid (liveFrom K k (k + 1) = liveFrom K k q) ∧ wx = wr.drewN m) (fun _ j _ => n - (intOf j).toNat)
              case atStart => exact ⟨k + 1, 0, Nat.le_refl _, hlt, by go_num, rfl, (show _ = _ from rfl), rfl⟩
              case round =>
                obtain ⟨q, m, hq1, hq2, rfl, rfl, HQ, rfl⟩ := hrel
                by_cases hq : q < n
                · have r := HROW.out.of_block (hE.below.block b HROW.out.lt)
                  have e1 : wr.cell? ⟨b, q * 4, none⟩ = some (.string (Nm q)) := by rw [r.cell (by omega), kc0]
                  have e2 : wr.cell? ⟨b, k * 4, none⟩ = some (.string (Nm k)) := by rw [r.cell (by omega), kc0]
                  clear r
                  by_cases he : K.nm q = K.nm k
                  · have HF : Hid (liveFrom K k (k + 1) = false) := by show _ = _; rw [HQ.out]; exact liveFrom_hit K k q (by rw [KN.out]; exact hq) he
                    have hbe : ((Nm q).toList == (Nm k).toList) = true := by rw [bytes_beq, ← KNM.out, ← KNM.out, he]; simp
                    clear he
                    go_wp2_with fail
                    go_quiet (fail)
                    go_wp2_with fail
                    go_meet
                    case rel => exact ⟨by rw [HF.out], (hE.drewN _).drewN _⟩
                  · have HF : Hid (liveFrom K k (k + 1) = liveFrom K k (q + 1)) := by show _ = _; rw [HQ.out]; exact liveFrom_miss K k q (by rw [KN.out]; exact hq) he
                    have hbe : ((Nm q).toList == (Nm k).toList) = false := by rw [bytes_beq, ← KNM.out, ← KNM.out]; simpa using he
                    clear he
                    go_wp2_with fail
                    go_quiet (fail)
                    go_wp2_with fail
                    go_roundw
                    case rel => exact ⟨q + 1, _, by omega, by omega, by go_num, rfl, HF, rfl⟩
                    case measure => simp [intOf]; omega
                · have HF : Hid (liveFrom K k (k + 1) = true) := by show _ = _; rw [HQ.out]; exact liveFrom_end K k q (by rw [KN.out]; omega)
                  go_wp2_with fail
                  go_meet
                  case rel => exact ⟨by rw [HF.out], hE.drewN _⟩
            case rest =>
              obtain ⟨rfl, hE⟩ := hcut
              generalize wc = V1 at *
              go_upto_region 34 with fail
              go_cut [23] (fun _ wx => EInv V0 wx n K newest.data.toList (k + 1))
              case first => as_aux_lemma =>
                have r := HROW.out.of_block (hE.below.block b HROW.out.lt)
                have e1 : V1.cell? ⟨b, k * 4, none⟩ = some (.string (Nm k)) := by rw [r.cell (by omega), kc0]
                have e2 : V1.cell? ⟨b, k * 4 + 1, none⟩ = some (.slice (R' k) (L k) (L k)) := by rw [r.cell (by omega), kc1]
                have e3 : V1.cell? ⟨V0.heap.size, k, none⟩ = some (.bool false) := by rw [hE.row.cell (i := k) hlt]; simp
                have e4 : V1.frozen? ⟨V0.heap.size, k, none⟩ = false := hE.row.frozen k
                clear r
                have HEL : Hid (K.ElB newest.data.toList k = (liveFrom K k (k + 1) && (decide (0 < L k) && !(((Nm k).toList == newest.toList) && decide (L k = 1))))) := by
                  show _ = _
                  unfold Kinds.ElB Kinds.El
                  rw [bytes_beq, KL.out, KNM.out]
                cases hl : liveFrom K k (k + 1)
                · rw [hl] at HEL
                  go_wp2_with fail
                  go_meet
                  case rel => exact einv_next V0 V1 n K _ k hE false (by rw [HEL.out]; rfl)
                · rw [hl] at HEL
                  by_cases h0 : (0 : Int) < L k
                  · have h0' : decide (0 < L k) = true := decide_eq_true (by omega)
                    rw [h0'] at HEL
                    clear h0'
                    cases hm : ((Nm k).toList == newest.toList)
                    · rw [hm] at HEL
                      go_wp2_with fail
                      go_meet
                      case rel => exact einv_next V0 V1 n K _ k hE true (by rw [HEL.out]; rfl)
                    · rw [hm] at HEL
                      by_cases h1 : L k = 1
                      · have h1' : ((L k : Int) == 1) = true := by rw [beq_iff_eq]; omega
                        rw [decide_eq_true h1] at HEL
                        clear h1
                        go_wp2_with fail
                        go_meet
                        case rel => exact einv_next V0 V1 n K _ k hE false (by rw [HEL.out]; rfl)
                      · have h1' : ((L k : Int) == 1) = false := by rw [beq_eq_false_iff_ne]; omega
                        rw [decide_eq_false h1] at HEL
                        clear h1
                        go_wp2_with fail
                        go_meet
                        case rel => exact einv_next V0 V1 n K _ k hE true (by rw [HEL.out]; rfl)
                  · have h0' : decide (0 < L k) = false := decide_eq_false (by omega)
                    rw [h0'] at HEL
                    clear h0'
                    go_wp2_with fail
                    go_meet
                    case rel => exact einv_next V0 V1 n K _ k hE false (by rw [HEL.out]; rfl)
              case rest => as_aux_lemma =>
                generalize wc = V2 at *
                have e5 : V2.cell? ⟨V0.heap.size, k, none⟩ = some (.bool (K.ElB newest.data.toList k)) := by rw [hcut.row.cell (i := k) hlt]; simp
                have HS : Hid (someEl K newest.data.toList (k + 1) = (someEl K newest.data.toList k || K.ElB newest.data.toList k)) := someEl_next K _ k
                cases hel : K.ElB newest.data.toList k
                · rw [hel] at HS
                  go_wp2_with fail
                  go_roundw
                  case rel => exact ⟨k + 1, by omega, by go_num, by rw [HS.out]; simp, hcut⟩
                  case measure => simp [intOf]; omega
                · rw [hel] at HS
                  go_wp2_with fail
                  go_roundw
                  case rel => exact ⟨k + 1, by omega, by go_num, by rw [HS.out]; simp, hcut⟩
                  case measure => simp [intOf]; omega
          · have ekn : n = k := by omega
            subst ekn
            generalize wr = V3 at *
            have hmk5 : ∀ w : World, (Instr.makeSlice 31 (.int .i64 (n : Int)) (.int .i64 (n : Int))).run Try.prog w = .ok (.slice (some ⟨w.heap.size, 0, none⟩) n n) (w.alloc (.cells (madeCells #[.string ByteArray.empty, .slice none 0 0, .int .u64 0, .int .i64 0] (n * 4)) 32)) := by
              intro w
              obtain ⟨i, hi, hzz⟩ := Option.map_eq_some_iff.1 info32
              simp only [Prod.mk.injEq] at hzz
              obtain ⟨hz, hs, hb⟩ := hzz
              have := run_make (P := Try.prog) w 31 32 i _ Try.underlying31 hi hz .i64 .i64 n n (by omega) (by omega) (by rw [hb]; omega) (by omega)
              rw [hs, show (Value.agg #[.string ByteArray.empty, .slice none 0 0, .int .u64 0, .int .i64 0]).cells = #[.string ByteArray.empty, .slice none 0 0, .int .u64 0, .int .i64 0] from by simp [Value.cells]] at this
              simpa using this
            have hs32 := cells32
            go_wp2_with fail
            clear hmk5
            go_loopw [26] (fun i wr => ∃ k : Nat, k ≤ n ∧ i = .int .i64 k ∧ Hid (wr.rowIs V3.heap.size 32 (n * 4) (kcp Nm R' L S B k)) ∧ Hid (Below V3.heap.size V3 wr)) (fun i _ => n - (intOf i).toNat)
            case atStart => exact ⟨0, Nat.zero_le _, rfl, rowIs_made4 _ _ _ _ _ (fun j => kcp_zero Nm R' L S B j), (Below.refl _ _).alloc (Nat.le_refl _) _⟩
            case round =>
              obtain ⟨k, hk, rfl, HR, HB⟩ := hrel
              by_cases hlt : k < n
              · as_aux_lemma =>
                rcases hO.row with ⟨_, h0⟩ | ⟨b, rfl, hb0, hrow⟩
                · omega
                have hbl : b < V3.heap.size := Nat.lt_of_lt_of_le hrow.lt hE.below.size
                have r := (hrow.of_block (hE.below.block b hrow.lt)).of_block (HB.out.block b hbl)
                have e0 : wr.cell? ⟨b, k * 4, none⟩ = some (.string (Nm k)) := by rw [r.cell (by omega), kc0]
                have e1 : wr.cell? ⟨b, k * 4 + 1, none⟩ = some (.slice (R' k) (L k) (L k)) := by rw [r.cell (by omega), kc1]
                have e2 : wr.cell? ⟨b, k * 4 + 2, none⟩ = some (.int .u64 (S k)) := by rw [r.cell (by omega), kc2]
                have e3 : wr.cell? ⟨b, k * 4 + 3, none⟩ = some (.int .i64 (B k)) := by rw [r.cell (by omega), kc3]
                obtain ⟨c0, c1, c2, c3, g0, g1, g2, g3, g4, g5, g6, g7⟩ := stores4 HR.out (k * 4) (by omega) (.string (Nm k)) (.slice (R' k) (L k) (L k)) (.int .u64 (S k)) (.int .i64 (B k))
                have m0 : ((((wr.setCell ⟨V3.heap.size, k * 4, none⟩ (.string (Nm k))).setCell ⟨V3.heap.size, k * 4 + 1, none⟩ (.slice (R' k) (L k) (L k))).setCell ⟨V3.heap.size, k * 4 + 2, none⟩ (.int .u64 (S k))).setCell ⟨V3.heap.size, k * 4 + 3, none⟩ (.int .i64 (B k))).cell? ⟨b, k * 4, none⟩ = some (.string (Nm k)) := (far_cells _ _ _ _ _ _ _ _ (by show b ≠ _; omega)).trans e0
                have m1 : ((((wr.setCell ⟨V3.heap.size, k * 4, none⟩ (.string (Nm k))).setCell ⟨V3.heap.size, k * 4 + 1, none⟩ (.slice (R' k) (L k) (L k))).setCell ⟨V3.heap.size, k * 4 + 2, none⟩ (.int .u64 (S k))).setCell ⟨V3.heap.size, k * 4 + 3, none⟩ (.int .i64 (B k))).cell? ⟨b, k * 4 + 1, none⟩ = some (.slice (R' k) (L k) (L k)) := (far_cells _ _ _ _ _ _ _ _ (by show b ≠ _; omega)).trans e1
                have m2 : ((((wr.setCell ⟨V3.heap.size, k * 4, none⟩ (.string (Nm k))).setCell ⟨V3.heap.size, k * 4 + 1, none⟩ (.slice (R' k) (L k) (L k))).setCell ⟨V3.heap.size, k * 4 + 2, none⟩ (.int .u64 (S k))).setCell ⟨V3.heap.size, k * 4 + 3, none⟩ (.int .i64 (B k))).cell? ⟨b, k * 4 + 2, none⟩ = some (.int .u64 (S k)) := (far_cells _ _ _ _ _ _ _ _ (by show b ≠ _; omega)).trans e2
                have m3 : ((((wr.setCell ⟨V3.heap.size, k * 4, none⟩ (.string (Nm k))).setCell ⟨V3.heap.size, k * 4 + 1, none⟩ (.slice (R' k) (L k) (L k))).setCell ⟨V3.heap.size, k * 4 + 2, none⟩ (.int .u64 (S k))).setCell ⟨V3.heap.size, k * 4 + 3, none⟩ (.int .i64 (B k))).cell? ⟨b, k * 4 + 3, none⟩ = some (.int .i64 (B k)) := (far_cells _ _ _ _ _ _ _ _ (by show b ≠ _; omega)).trans e3
                have HR1 : Hid (((((wr.setCell ⟨V3.heap.size, k * 4, none⟩ (.string (Nm k))).setCell ⟨V3.heap.size, k * 4 + 1, none⟩ (.slice (R' k) (L k) (L k))).setCell ⟨V3.heap.size, k * 4 + 2, none⟩ (.int .u64 (S k))).setCell ⟨V3.heap.size, k * 4 + 3, none⟩ (.int .i64 (B k))).rowIs V3.heap.size 32 (n * 4) (kcp Nm R' L S B (k + 1))) := kcp_store n Nm R' L S B k HR.out
                have HB1 : Hid (Below V3.heap.size V3 ((((wr.setCell ⟨V3.heap.size, k * 4, none⟩ (.string (Nm k))).setCell ⟨V3.heap.size, k * 4 + 1, none⟩ (.slice (R' k) (L k) (L k))).setCell ⟨V3.heap.size, k * 4 + 2, none⟩ (.int .u64 (S k))).setCell ⟨V3.heap.size, k * 4 + 3, none⟩ (.int .i64 (B k)))) := ((((HB.out).setCell (Nat.le_refl _) _).setCell (Nat.le_refl _) _).setCell (Nat.le_refl _) _).setCell (Nat.le_refl _) _
                clear r hrow hbl
                go_wp2_with fail
                go_region_held3 (fun w' => w'.cell? ⟨b, k * 4, none⟩ = some (.string (Nm k)) ∧ w'.cell? ⟨b, k * 4 + 1, none⟩ = some (.slice (R' k) (L k) (L k)) ∧ w'.cell? ⟨b, k * 4 + 2, none⟩ = some (.int .u64 (S k)) ∧ w'.cell? ⟨b, k * 4 + 3, none⟩ = some (.int .i64 (B k))) (go_keep) (fail)
                go_wp2_with fail
                go_roundw
                case rel => exact ⟨k + 1, by omega, by go_num, HR1.out.drew, HB1.out.drew⟩
                case measure => simp [intOf]; omega
              · have ekn : n = k := by omega
                subst ekn
                generalize wr = V4 at *
                have HROW4 : Hid (V4.rowIs V3.heap.size 32 (n * 4) (kc Nm R' L S B)) := HR.out.congr fun j hj => by unfold kcp; rw [if_pos (by omega)]
                have HVC : Hid (Calls Try.prog 17 #[.slice (some ⟨V3.heap.size, 0, none⟩) n n, .int .u64 base, .int .i64 ev, .int .i64 bts, .int .i64 mx, .int .i64 mbs, .string newest] V4 fun e w' =>
                    ∃ v : Option Nat, e = .returned (.tuple #[.int .i64 (match v with | none => -1 | some i => (i : Int)), .bool v.isSome]) ∧ VRes (mkK n Nm L Z B) newest.data.toList (decide (mx < ev)) v ∧ Below V4.heap.size V4 w') :=
                  zzVictim (mkK n Nm L Z B) Nm R' S V3.heap.size base ev bts mx mbs newest V4 HROW4.out (fun i hi => ((hO.u i hi).below hE.below (Nat.le_refl _)).below HB.out (Nat.le_refl _)) (fun i hi => by have := (HJ.out i hi).2; show L i ≤ _; omega) (by show n ≤ 4096; omega) (fun i hi => ⟨rfl, by unfold maxLen; have := (HJ.out i hi).1; omega⟩) (by unfold maxLen; omega)
                have HBV4 : Hid (Below w'.heap.size w' V4) := (HBW.out.trans (hE.below.mono HBW.out.size)).trans (HB.out.mono (Nat.le_trans HBW.out.size hE.below.size))
                have HEL4 : Hid (V4.rowIs V0.heap.size 4 n (fun j => .bool (K.ElB newest.data.toList j))) := (hE.row.of_block (HB.out.block _ hE.row.lt)).congr fun j hj => by rw [if_pos hj]
                have HO4 : Hid (∀ i, i < n → U64 V4 (R' i) (L i) (Z i)) := fun i hi => ((hO.u i hi).below hE.below (Nat.le_refl _)).below HB.out (Nat.le_refl _)
                have HRW4 : Hid ((a' = none ∧ n = 0) ∨ ∃ b, a' = some ⟨b, 0, none⟩ ∧ V4.rowIs b 28 (n * 4) (kc Nm R' L S B)) := by
                  rcases hO.row with h0 | ⟨b, rfl, hb0, hrow⟩
                  · exact Or.inl h0
                  · exact Or.inr ⟨b, rfl, (hrow.of_block (hE.below.block b hrow.lt)).of_block (HB.out.block b (Nat.lt_of_lt_of_le hrow.lt hE.below.size))⟩
                clear hO hE HR HB HROW4 HBW
                go_wp2_with fail
                refine HVC.out.mono ?_
                rintro e V5 ⟨v, rfl, hvr, hb5⟩
                have HVR : Hid (VRes (mkK n Nm L Z B) newest.data.toList (decide (mx < ev)) v) := hvr
                have HB5 : Hid (Below V4.heap.size V4 V5) := hb5
                clear HVC hvr hb5
                cases v with
                | none => as_aux_lemma =>
                  have hse : someEl K newest.data.toList n = false := by rw [KK.out]; exact vres_none (mkK n Nm L Z B) _ _ HVR.out
                  rw [hse]
                  clear hse
                  go_wp2_with fail
                  go_ret
                  exact ⟨rfl, HBV4.out.trans (HB5.out.mono HBV4.out.size)⟩
                | some v => as_aux_lemma =>
                  obtain ⟨hse, hvn, hve, hvb⟩ := vres_some (mkK n Nm L Z B) _ _ v HVR.out
                  have hvn : v < n := hvn
                  have hse : someEl K newest.data.toList n = true := by rw [KK.out]; exact hse
                  rw [hse]
                  have HVB : Hid (∀ j, j < n → K.ElB newest.data.toList j = true → ¬ wg L B (decide (mx < ev)) v < wg L B (decide (mx < ev)) j ∧ (wg L B (decide (mx < ev)) j = wg L B (decide (mx < ev)) v → ¬ Z j 0 < Z v 0)) := by
                    intro j hj he
                    exact beats_law n Nm L Z B _ j v (hvb j hj (by rw [← KK.out]; exact he))
                  have hv0 : 0 < L v := el_pos n Nm L Z B _ v hve
                  rcases HRW4.out with ⟨_, h0⟩ | ⟨b, rfl, hrow⟩
                  · omega
                  obtain ⟨xv, hxv, hxc⟩ := ((HO4.out v hvn).below HB5.out (Nat.le_refl _)).head hv0
                  have r := hrow.of_block (HB5.out.block b hrow.lt)
                  have e0 : V5.cell? ⟨b, v * 4, none⟩ = some (.string (Nm v)) := by rw [r.cell (by omega), kc0]
                  have e1 : V5.cell? ⟨b, v * 4 + 1, none⟩ = some (.slice (some xv) (L v) (L v)) := by rw [r.cell (by omega), kc1, hxv]
                  have e2 : V5.cell? ⟨b, v * 4 + 2, none⟩ = some (.int .u64 (S v)) := by rw [r.cell (by omega), kc2]
                  have e3 : V5.cell? ⟨b, v * 4 + 3, none⟩ = some (.int .i64 (B v)) := by rw [r.cell (by omega), kc3]
                  have e4 : V5.cell? ⟨V0.heap.size, v, none⟩ = some (.bool true) := by
                    have := (HEL4.out.of_block (HB5.out.block _ HEL4.out.lt)).cell (i := v) hvn
                    rw [this, KK.out, hve]
                  have HR5 : Hid (V5.rowIs b 28 (n * 4) (kc Nm R' L S B)) := r
                  have HE5 : Hid (V5.rowIs V0.heap.size 4 n (fun j => .bool (K.ElB newest.data.toList j))) := HEL4.out.of_block (HB5.out.block _ HEL4.out.lt)
                  have HO5 : Hid (∀ i, i < n → U64 V5 (R' i) (L i) (Z i)) := fun i hi => (HO4.out i hi).below HB5.out (Nat.le_refl _)
                  have HBV5 : Hid (Below w'.heap.size w' V5) := HBV4.out.trans (HB5.out.mono HBV4.out.size)
                  clear r hrow hxv hse hve hvb HRW4 HEL4 HO4 HBV4 HB5 HVR
                  have HW : Hid (∀ (i : Nat) (a : Option Addr) (w : World), Calls Try.prog 18 #[.agg #[.string (Nm i), .slice a (L i) (L i), .int .u64 (S i), .int .i64 (B i)], .bool (decide (mx < ev))] w fun e w' => e = .returned (.int .i64 (wg L B (decide (mx < ev)) i)) ∧ Below w.heap.size w w') :=
                    fun i a w => weight18 (Nm i) a (L i) (S i) (B i) (decide (mx < ev)) w
                  go_wp2_with fail
                  refine (HW.out v (some xv) _).mono ?_
                  rintro e V6 ⟨rfl, hb6⟩
                  have HR6 : Hid (V6.rowIs b 28 (n * 4) (kc Nm R' L S B)) := HR5.out.of_block (hb6.block b HR5.out.lt)
                  have HE6 : Hid (V6.rowIs V0.heap.size 4 n (fun j => .bool (K.ElB newest.data.toList j))) := HE5.out.of_block (hb6.block _ HE5.out.lt)
                  have HO6 : Hid (∀ i, i < n → U64 V6 (R' i) (L i) (Z i)) := fun i hi => (HO5.out i hi).below hb6 (Nat.le_refl _)
                  have HBV6 : Hid (Below w'.heap.size w' V6) := HBV5.out.trans (hb6.mono HBV5.out.size)
                  have f1 : V6.cell? ⟨b, v * 4 + 1, none⟩ = some (.slice (some xv) (L v) (L v)) := by rw [hb6.cell (lt_of_cell e1)]; exact e1
                  have f2 : V6.cell? xv = some (.int .u64 (Z v 0)) := by rw [hb6.cell (lt_of_cell hxc)]; exact hxc
                  clear e0 e1 e2 e3 e4 hxc HR5 HE5 HO5 HBV5 hb6
                  go_wp2_with fail
                  clear f1 f2
                  go_loopw [32, 33] (fun i _ wr => ∃ k : Nat, k ≤ n ∧ i = .int .i64 k ∧ Hid (Below V6.heap.size V6 wr)) (fun i _ _ => n - (intOf i).toNat)
                  case atStart => exact ⟨0, Nat.zero_le _, rfl, Below.refl _ _⟩
                  case round =>
                    obtain ⟨k, hk, rfl, HBK⟩ := hrel
                    by_cases hlt : k < n
                    · as_aux_lemma =>
                      have hel := (HE6.out.of_block (HBK.out.block _ HE6.out.lt)).cell (i := k) hlt
                      have r := HR6.out.of_block (HBK.out.block b HR6.out.lt)
                      cases hk0 : K.ElB newest.data.toList k
                      · rw [hk0] at hel
                        clear hk0 r
                        go_wp2_with fail
                        go_roundw
                        case rel => exact ⟨k + 1, by omega, by go_num, HBK⟩
                        case measure => simp [intOf]; omega
                      · obtain ⟨hv1, hv2⟩ := HVB.out k hlt hk0
                        have hL0 : 0 < L k := el_pos n Nm L Z B newest.data.toList k (by rw [← KK.out]; exact hk0)
                        obtain ⟨xk, hxk, hxc⟩ := ((HO6.out k hlt).below HBK.out (Nat.le_refl _)).head hL0
                        rw [hk0] at hel
                        have e0 : wr.cell? ⟨b, k * 4, none⟩ = some (.string (Nm k)) := by rw [r.cell (by omega), kc0]
                        have e1 : wr.cell? ⟨b, k * 4 + 1, none⟩ = some (.slice (some xk) (L k) (L k)) := by rw [r.cell (by omega), kc1, hxk]
                        have e2 : wr.cell? ⟨b, k * 4 + 2, none⟩ = some (.int .u64 (S k)) := by rw [r.cell (by omega), kc2]
                        have e3 : wr.cell? ⟨b, k * 4 + 3, none⟩ = some (.int .i64 (B k)) := by rw [r.cell (by omega), kc3]
                        clear hk0 r hxk
                        have HV2 : Hid (wg L B (decide (mx < ev)) k = wg L B (decide (mx < ev)) v → ¬ Z k 0 < Z v 0) := (fun h => by have := hv2 h; omega : wg L B (decide (mx < ev)) k = wg L B (decide (mx < ev)) v → ¬ Z k 0 < Z v 0)
                        clear hv2
                        go_wp2_with fail
                        refine (HW.out k (some xk) _).mono ?_
                        rintro e V7 ⟨rfl, hb7⟩
                        have g1 : V7.cell? ⟨b, k * 4 + 1, none⟩ = some (.slice (some xk) (L k) (L k)) := by rw [hb7.cell (lt_of_cell e1)]; exact e1
                        have g2 : V7.cell? xk = some (.int .u64 (Z k 0)) := by rw [hb7.cell (lt_of_cell hxc)]; exact hxc
                        have HB7 : Hid (Below V6.heap.size V6 V7) := HBK.out.trans (hb7.mono HBK.out.size)
                        clear hb7 e0 e1 e2 e3 hxc hel
                        by_cases hw : wg L B (decide (mx < ev)) k = wg L B (decide (mx < ev)) v
                        · have hz := HV2.out hw
                          have hw' : (wg L B (decide (mx < ev)) k == wg L B (decide (mx < ev)) v) = true := by rw [beq_iff_eq]; exact hw
                          clear hw HV2
                          go_wp2_with fail
                          go_roundw
                          case rel => exact ⟨k + 1, by omega, by go_num, HB7⟩
                          case measure => simp [intOf]; omega
                        · have hw' : (wg L B (decide (mx < ev)) k == wg L B (decide (mx < ev)) v) = false := by rw [beq_eq_false_iff_ne]; exact hw
                          clear hw HV2
                          go_wp2_with fail
                          go_roundw
                          case rel => exact ⟨k + 1, by omega, by go_num, HB7⟩
                          case measure => simp [intOf]; omega
                    · go_wp2_with fail
                      go_ret
                      exact ⟨rfl, HBV6.out.trans (HBK.out.mono HBV6.out.size)⟩
end Go.Proofs.Qxb6601359a.Vic
