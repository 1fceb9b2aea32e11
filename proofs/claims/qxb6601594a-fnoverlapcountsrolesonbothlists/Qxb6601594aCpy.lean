import Derived.Test.Qxb6601594aGs2
import Derived.Deep.RegionHeld3
namespace Go.Proofs.Qxb6601594a.Mem
open Go.ChangeShapes Go.WideShapes Go.ChangeAt Go.RowKit Go.Maps
open Go.Proofs.Qxb6601594a.Plain Go.Proofs.Qxb6601594a.Map
set_option linter.unusedVariables false
set_option linter.unusedSimpArgs false

/-- The new index, its maps being filled. -/
structure Cp (w0 w : World) (sm se : Value) (t : Int) (qk ql : Nat) (fx fy : Value → Option Value) : Prop where
  bl : Below w0.heap.size w0 w
  c0 : w.cell? ⟨w0.heap.size + 3, 0, none⟩ = some sm
  c1 : w.cell? ⟨w0.heap.size + 3, 1, none⟩ = some se
  c2 : w.cell? ⟨w0.heap.size + 3, 2, none⟩ = some (.map (some w0.heap.size))
  c3 : w.cell? ⟨w0.heap.size + 3, 3, none⟩ = some (.map (some (w0.heap.size + 1)))
  c4 : w.cell? ⟨w0.heap.size + 3, 4, none⟩ = some (.map (some (w0.heap.size + 2)))
  c5 : w.cell? ⟨w0.heap.size + 3, 5, none⟩ = some (.int .i64 t)
  fz : ∀ i, w.frozen? ⟨w0.heap.size + 3, i, none⟩ = false
  key : ∃ c, MapIs w 9 (w0.heap.size + 1) qk c fx
  lbl : ∃ c, MapIs w 51 w0.heap.size ql c fy
  ov : MapIs w 60 (w0.heap.size + 2) 0 0 (fun _ => none)

section
variable {w0 w w' : World} {sm se : Value} {t : Int} {qk ql : Nat} {fx fy : Value → Option Value}

theorem Cp.new (w0 : World) (sm se : Value) (t : Int) (w : World) (hw : w = (((w0.alloc (.map #[] 0)).alloc (.map #[] 0)).alloc (.map #[] 0)).alloc (.cells #[sm, se, .map (some w0.heap.size), .map (some (w0.heap.size + 1)), .map (some (w0.heap.size + 2)), .int .i64 t] 59)) :
    Cp w0 w sm se t 0 0 (fun _ => none) (fun _ => none) := by
  have hh := (MapKept.heap_alloc (((w0.alloc (.map #[] 0)).alloc (.map #[] 0)).alloc (.map #[] 0)) (.cells #[sm, se, .map (some w0.heap.size), .map (some (w0.heap.size + 1)), .map (some (w0.heap.size + 2)), .int .i64 t] 59)).1
  rw [← hw] at hh
  simp only [World.size_alloc] at hh
  have m1 := MapIs.made w0 51
  have m2 := MapIs.made (w0.alloc (.map #[] 0)) 9
  have m3 := MapIs.made ((w0.alloc (.map #[] 0)).alloc (.map #[] 0)) 60
  simp only [World.size_alloc] at m2 m3
  refine ⟨?_, ?_, ?_, ?_, ?_, ?_, ?_, fun i => ?_, ⟨0, ?_⟩, ⟨0, ?_⟩, ?_⟩
  · rw [hw]; exact ((((Below.refl _ _).alloc (Nat.le_refl _) _).alloc (by simp) _).alloc (by simp; omega) _).alloc (by simp; omega) _
  · unfold World.cell?; simp only [hh]; rfl
  · unfold World.cell?; simp only [hh]; rfl
  · unfold World.cell?; simp only [hh]; rfl
  · unfold World.cell?; simp only [hh]; rfl
  · unfold World.cell?; simp only [hh]; rfl
  · unfold World.cell?; simp only [hh]; rfl
  · unfold World.frozen?; simp only [hh]; rfl
  · rw [hw]; exact (m2.grown (grown_alloc _ _) (by simp)).grown (grown_alloc _ _) (by simp)
  · rw [hw]; exact ((m1.grown (grown_alloc _ _) (by simp)).grown (grown_alloc _ _) (by simp)).grown (grown_alloc _ _) (by simp)
  · rw [hw]; exact m3.grown (grown_alloc _ _) (by simp)

theorem Cp.drew (h : Cp w0 w sm se t qk ql fx fy) : Cp w0 w.drew sm se t qk ql fx fy :=
  ⟨h.bl.drew, h.c0, h.c1, h.c2, h.c3, h.c4, h.c5, h.fz, by obtain ⟨c, hm⟩ := h.key; exact ⟨c, hm.same rfl⟩, by obtain ⟨c, hm⟩ := h.lbl; exact ⟨c, hm.same rfl⟩, h.ov.same rfl⟩

theorem Cp.lt (h : Cp w0 w sm se t qk ql fx fy) : w0.heap.size + 3 < w.heap.size := lt_of_cell h.c0

theorem Cp.setKey (h : Cp w0 w sm se t qk ql fx fy) {f : Value → Option Value} (hs : Stored w w' 9 (w0.heap.size + 1) qk f) : Cp w0 w' sm se t (qk + 1) ql f fy := by
  obtain ⟨⟨c, hm⟩, hg, hsz⟩ := hs
  have hl := h.lt
  have hb : ∀ b, b < w.heap.size → b ≠ w0.heap.size + 1 → w'.heap[b]? = w.heap[b]? := fun b h1 h2 => hg.block b h1 (by simp; exact h2)
  refine ⟨h.bl.grown hg h.bl.size (fun j hj => by cases hj; omega), cell_same h.c0 (hb _ (by exact hl) (by simp)), cell_same h.c1 (hb _ (by exact hl) (by simp)), cell_same h.c2 (hb _ (by exact hl) (by simp)), cell_same h.c3 (hb _ (by exact hl) (by simp)),
    cell_same h.c4 (hb _ (by exact hl) (by simp)), cell_same h.c5 (hb _ (by exact hl) (by simp)), fun i => by rw [frozen_same (hb _ (by exact hl) (by simp))]; exact h.fz i, ⟨c, hm⟩, ?_, h.ov.same (hb _ (by omega) (by omega))⟩
  obtain ⟨c', hm'⟩ := h.lbl
  exact ⟨c', hm'.same (hb _ (by omega) (by omega))⟩
theorem Cp.setLab (h : Cp w0 w sm se t qk ql fx fy) {f : Value → Option Value} (hs : Stored w w' 51 w0.heap.size ql f) : Cp w0 w' sm se t qk (ql + 1) fx f := by
  obtain ⟨⟨c, hm⟩, hg, hsz⟩ := hs
  have hl := h.lt
  have hb : ∀ b, b < w.heap.size → b ≠ w0.heap.size → w'.heap[b]? = w.heap[b]? := fun b h1 h2 => hg.block b h1 (by simp; exact h2)
  refine ⟨h.bl.grown hg h.bl.size (fun j hj => by cases hj; omega), cell_same h.c0 (hb _ (by exact hl) (by simp)), cell_same h.c1 (hb _ (by exact hl) (by simp)), cell_same h.c2 (hb _ (by exact hl) (by simp)), cell_same h.c3 (hb _ (by exact hl) (by simp)),
    cell_same h.c4 (hb _ (by exact hl) (by simp)), cell_same h.c5 (hb _ (by exact hl) (by simp)), fun i => by rw [frozen_same (hb _ (by exact hl) (by simp))]; exact h.fz i, ?_, ⟨c, hm⟩, h.ov.same (hb _ (by omega) (by omega))⟩
  obtain ⟨c', hm'⟩ := h.key
  exact ⟨c', hm'.same (hb _ (by omega) (by omega))⟩
end

/-- A row of places as the index reads it. -/
theorem own_PL {w w' : World} {base : Nat} {v : Value} {ps : List Nat} {N : Nat} (h : w.ownsRow base 3 1 v ps.length (ints ps)) (hN : w.heap.size ≤ N) (hb : ∀ b, b < w.heap.size → w'.heap[b]? = w.heap[b]?) : PL w' N v ps := by
  rcases h.2 with ⟨rfl, h0⟩ | ⟨g, cap, cur, rfl, _, hg, _⟩
  · refine ⟨none, 0, by rw [h0], fun j hj => absurd hj (by omega)⟩
  · refine ⟨some ⟨g, 0, none⟩, cap, rfl, fun j hj => ⟨⟨g, 0, none⟩, rfl, ?_, ?_⟩⟩
    · exact Nat.lt_of_lt_of_le (Array.getElem?_eq_some_iff.1 hg).1 hN
    · have := h.cells (g := g) rfl j (.int .i64 (ps[j] : Nat)) (by simp [ints, List.getElem?_eq_getElem hj])
      exact cell_same this (by rw [add_block]; exact hb g (Array.getElem?_eq_some_iff.1 hg).1)

/-- What the copied map holds: the values at the keys of a list. -/
def atKeys (ks : List ByteArray) (val : G → Value) (s : ByteArray) : Option Value := if ks.any (fun x => decide (x = s)) then some (val (s, none)) else none
def atPairs (pr : List (ByteArray × ByteArray)) (val : G → Value) (s u : ByteArray) : Option Value := if pr.any (fun x => decide (x = (s, u))) then some (val (s, some u)) else none
theorem atKeys_mem {ks : List ByteArray} {val : G → Value} {s : ByteArray} (h : s ∈ ks) : atKeys ks val s = some (val (s, none)) := by
  have : ks.any (fun x => decide (x = s)) = true := List.any_eq_true.2 ⟨s, h, by simp⟩
  unfold atKeys
  rw [if_pos this]
theorem atKeys_not {ks : List ByteArray} {val : G → Value} {s : ByteArray} (h : ¬ s ∈ ks) : atKeys ks val s = none := by
  have : ¬ ks.any (fun x => decide (x = s)) = true := fun e => by
    obtain ⟨x, h1, h2⟩ := List.any_eq_true.1 e
    have := of_decide_eq_true h2
    subst this
    exact h h1
  unfold atKeys
  rw [if_neg this]
theorem atPairs_mem {pr : List (ByteArray × ByteArray)} {val : G → Value} {s u : ByteArray} (h : (s, u) ∈ pr) : atPairs pr val s u = some (val (s, some u)) := by
  have : pr.any (fun x => decide (x = (s, u))) = true := List.any_eq_true.2 ⟨(s, u), h, by simp⟩
  unfold atPairs
  rw [if_pos this]
theorem atPairs_not {pr : List (ByteArray × ByteArray)} {val : G → Value} {s u : ByteArray} (h : ¬ (s, u) ∈ pr) : atPairs pr val s u = none := by
  have : ¬ pr.any (fun x => decide (x = (s, u))) = true := fun e => by
    obtain ⟨x, h1, h2⟩ := List.any_eq_true.1 e
    have := of_decide_eq_true h2
    subst this
    exact h h1
  unfold atPairs
  rw [if_neg this]
theorem atKeys_snoc [DecidableEq Value] {ks : List ByteArray} {val : G → Value} {fx : Value → Option Value} {k : ByteArray} (h : ∀ s, fx (.string s) = atKeys ks val s) : ∀ s, upd fx (.string k) (val (k, none)) (.string s) = atKeys (ks ++ [k]) val s := by
  intro s
  by_cases e : s = k
  · subst e; rw [upd_same, atKeys_mem (by simp)]
  · rw [upd_other _ _ (by simpa using e), h]
    have e3 : s ∈ ks ++ [k] ↔ s ∈ ks := by simp [e]
    by_cases hs : s ∈ ks
    · rw [atKeys_mem hs, atKeys_mem (e3.2 hs)]
    · rw [atKeys_not hs, atKeys_not (fun x => hs (e3.1 x))]
theorem atPairs_snoc [DecidableEq Value] {pr : List (ByteArray × ByteArray)} {val : G → Value} {fx : Value → Option Value} {k v : ByteArray} (h : ∀ s u, fx (.agg #[.string s, .string u]) = atPairs pr val s u) : ∀ s u, upd fx (.agg #[.string k, .string v]) (val (k, some v)) (.agg #[.string s, .string u]) = atPairs (pr ++ [(k, v)]) val s u := by
  intro s u
  by_cases e : s = k ∧ u = v
  · obtain ⟨rfl, rfl⟩ := e; rw [upd_same, atPairs_mem (by simp)]
  · rw [upd_other _ _ (by simpa using e), h]
    have e2 : ¬ ((s, u) = (k, v)) := by simpa using e
    have e3 : (s, u) ∈ pr ++ [(k, v)] ↔ (s, u) ∈ pr := by
      rw [List.mem_append, List.mem_singleton]
      exact ⟨fun x => x.elim id (fun y => absurd y e2), .inl⟩
    by_cases hs : (s, u) ∈ pr
    · rw [atPairs_mem hs, atPairs_mem (e3.2 hs)]
    · rw [atPairs_not hs, atPairs_not (fun x => hs (e3.1 x))]

section
variable {W w0 w : World} {Q : Nat} {kv pv : Value} {ps : G → List Nat} {tg : Nat → G} {val : G → Value} {fk fl : Value → Option Value} {ks : List ByteArray} {pr : List (ByteArray × ByteArray)} {n : Nat} {mb : Nat → Nat} {lv : Nat → ByteArray → Option ByteArray}
theorem add_zero_block (B i : Nat) : (⟨B, 0, none⟩ : Addr).add i = ⟨B, i, none⟩ := by unfold Addr.add; split <;> simp_all
/-- The index stands. -/
theorem Cp.idx {t : Int} {qk ql : Nat} {fx fy : Value → Option Value} (hG : Gs W w0 Q kv pv (fun g => pls (fun j => onB g (lv j g.1)) n) tg val fk fl ks pr) (hF : Fx w0 W.heap.size n n n mb lv) (hC : Cp w0 w (.slice (some ⟨W.heap.size, 0, none⟩) n n) (.slice (some ⟨W.heap.size + 1, 0, none⟩) n n) t qk ql fx fy)
    (hx : ∀ s, fx (.string s) = atKeys ks val s) (hy : ∀ s u, fy (.agg #[.string s, .string u]) = atPairs pr val s u) :
    Idx w w0.heap.size n ⟨W.heap.size, 0, none⟩ ⟨W.heap.size + 1, 0, none⟩ mb fx fy lv t 0 (fun _ => none) where
  c0 := hC.c0
  c1 := hC.c1
  c2 := hC.c2
  c3 := hC.c3
  c4 := hC.c4
  c5 := hC.c5
  fz := hC.fz
  mlt := by have := hG.sz; show W.heap.size < _; omega
  elt := by have := hG.sz; show W.heap.size + 1 < _; omega
  maps := fun i hi => by
    rw [add_zero_block]
    have := hF.mrow.cell hi
    rw [if_pos hi] at this
    exact cell_same this (hC.bl.block _ hF.mrow.lt)
  every := fun i hi => by
    rw [add_zero_block]
    have := hF.erow.cell hi
    rw [if_pos hi] at this
    exact cell_same this (hC.bl.block _ hF.erow.lt)
  mp := fun i hi => by
    obtain ⟨_, c, k, f, hm, hf⟩ := hF.mp i hi
    exact ⟨hm.lt, c, k, f, hm.same (hC.bl.block _ hm.lt), hf⟩
  lbl := by obtain ⟨c, hm⟩ := hC.lbl; exact ⟨_, c, hm⟩
  key := by obtain ⟨c, hm⟩ := hC.key; exact ⟨_, c, hm⟩
  ov := hC.ov
  kp := fun s => by
    have e : (fx (.string s)).getD (.slice none 0 0) = val (s, none) := by
      rw [hx, ← hG.kval]
      by_cases hs : s ∈ ks
      · rw [atKeys_mem hs, Option.getD_some, hG.kval]
      · rw [atKeys_not hs]
        cases hf : fk (.string s) with
        | none => rfl
        | some v => exact absurd (hG.kin s (by rw [hf]; simp)) hs
    rw [e]
    exact own_PL (hG.rw.own (s, none)) (Nat.le_refl _) (fun b hb => hC.bl.block b hb)
  lp := fun s u => by
    have e : (fy (.agg #[.string s, .string u])).getD (.slice none 0 0) = val (s, some u) := by
      rw [hy, ← hG.lval]
      by_cases hs : (s, u) ∈ pr
      · rw [atPairs_mem hs, Option.getD_some, hG.lval]
      · rw [atPairs_not hs]
        cases hf : fl (.agg #[.string s, .string u]) with
        | none => rfl
        | some v => exact absurd (hG.lin s u (by rw [hf]; simp)) hs
    rw [e]
    exact own_PL (hG.rw.own (s, some u)) (Nat.le_refl _) (fun b hb => hC.bl.block b hb)
end
end Go.Proofs.Qxb6601594a.Mem
