import Derived.Test.Qxb6601594aMem
import Derived.BigRegion
namespace Go.Proofs.Qxb6601594a.Mem
open Go.ChangeShapes Go.WideShapes Go.ChangeAt Go.RowKit Go.Maps
open Go.Proofs.Qxb6601594a.Plain Go.Proofs.Qxb6601594a.Map
set_option linter.unusedVariables false
set_option linter.unusedSimpArgs false

theorem add_block (x : Addr) (j : Nat) : (x.add j).block = x.block := by
  unfold Addr.add
  split <;> rfl

/-- The slice value v reads as the places ps, in blocks below N. -/
def PL (w : World) (N : Nat) (v : Value) (ps : List Nat) : Prop :=
  ∃ (a : Option Addr) (cap : Nat), v = .slice a ps.length cap ∧ ∀ j (h : j < ps.length), ∃ x, a = some x ∧ x.block < N ∧ w.cell? (x.add j) = some (.int .i64 (ps[j] : Nat))

theorem PL.same {w w' : World} {N : Nat} {v : Value} {ps : List Nat} (h : PL w N v ps) (hs : ∀ b, b < N → w'.heap[b]? = w.heap[b]?) : PL w' N v ps := by
  obtain ⟨a, cap, e, h⟩ := h
  refine ⟨a, cap, e, fun j hj => ?_⟩
  obtain ⟨x, e1, e2, e3⟩ := h j hj
  refine ⟨x, e1, e2, ?_⟩
  rw [← e3]
  unfold World.cell?
  rw [add_block, hs _ e2]

/-- The index at block N + 3, over n roles that give each key what lv says. -/
structure Idx (w : World) (N n : Nat) (ms es : Addr) (mb : Nat → Nat) (fk fl : Value → Option Value) (lv : Nat → ByteArray → Option ByteArray) (t : Int) (oc : Nat) (fo : Value → Option Value) : Prop where
  c0 : w.cell? ⟨N + 3, 0, none⟩ = some (.slice (some ms) n n)
  c1 : w.cell? ⟨N + 3, 1, none⟩ = some (.slice (some es) n n)
  c2 : w.cell? ⟨N + 3, 2, none⟩ = some (.map (some N))
  c3 : w.cell? ⟨N + 3, 3, none⟩ = some (.map (some (N + 1)))
  c4 : w.cell? ⟨N + 3, 4, none⟩ = some (.map (some (N + 2)))
  c5 : w.cell? ⟨N + 3, 5, none⟩ = some (.int .i64 t)
  fz : ∀ i, w.frozen? ⟨N + 3, i, none⟩ = false
  mlt : ms.block < N
  elt : es.block < N
  maps : ∀ i, i < n → w.cell? (ms.add i) = some (.map (some (mb i)))
  every : ∀ i, i < n → w.cell? (es.add i) = some (.int .i64 i)
  mp : ∀ i, i < n → mb i < N ∧ ∃ c k f, MapIs w 9 (mb i) c k f ∧ ∀ s, f (.string s) = (lv i s).map .string
  lbl : ∃ c k, MapIs w 51 N c k fl
  key : ∃ c k, MapIs w 9 (N + 1) c k fk
  ov : MapIs w 60 (N + 2) oc oc fo
  kp : ∀ s, PL w N ((fk (.string s)).getD (.slice none 0 0)) (pls (fun i => (lv i s).isSome) n)
  lp : ∀ s v, PL w N ((fl (.agg #[.string s, .string v])).getD (.slice none 0 0)) (pls (fun i => decide (lv i s = some v)) n)

section
variable {w w' : World} {N n : Nat} {ms es : Addr} {mb : Nat → Nat} {fk fl : Value → Option Value} {lv : Nat → ByteArray → Option ByteArray} {t : Int} {oc : Nat} {fo : Value → Option Value}

theorem cell_same {a : Addr} {v : Value} (h : w.cell? a = some v) (hs : w'.heap[a.block]? = w.heap[a.block]?) : w'.cell? a = some v := by
  rw [← h]
  unfold World.cell?
  rw [hs]
theorem frozen_same {a : Addr} (hs : w'.heap[a.block]? = w.heap[a.block]?) : w'.frozen? a = w.frozen? a := by
  unfold World.frozen?
  rw [hs]

/-- While only blocks above it turn, the index stays. -/
theorem Idx.same (h : Idx w N n ms es mb fk fl lv t oc fo) (hs : ∀ b, b < N + 4 → w'.heap[b]? = w.heap[b]?) : Idx w' N n ms es mb fk fl lv t oc fo where
  c0 := cell_same h.c0 (hs _ (by show N + 3 < N + 4; omega))
  c1 := cell_same h.c1 (hs _ (by show N + 3 < N + 4; omega))
  c2 := cell_same h.c2 (hs _ (by show N + 3 < N + 4; omega))
  c3 := cell_same h.c3 (hs _ (by show N + 3 < N + 4; omega))
  c4 := cell_same h.c4 (hs _ (by show N + 3 < N + 4; omega))
  c5 := cell_same h.c5 (hs _ (by show N + 3 < N + 4; omega))
  fz := fun i => by rw [frozen_same (hs _ (by show N + 3 < N + 4; omega))]; exact h.fz i
  mlt := h.mlt
  elt := h.elt
  maps := fun i hi => cell_same (h.maps i hi) (by rw [add_block]; exact hs _ (Nat.lt_of_lt_of_le h.mlt (by omega)))
  every := fun i hi => cell_same (h.every i hi) (by rw [add_block]; exact hs _ (Nat.lt_of_lt_of_le h.elt (by omega)))
  mp := fun i hi => by
    obtain ⟨h1, c, k, f, h2, h3⟩ := h.mp i hi
    exact ⟨h1, c, k, f, h2.same (hs _ (by omega)), h3⟩
  lbl := by
    obtain ⟨c, k, h1⟩ := h.lbl
    exact ⟨c, k, h1.same (hs _ (by omega))⟩
  key := by
    obtain ⟨c, k, h1⟩ := h.key
    exact ⟨c, k, h1.same (hs _ (by omega))⟩
  ov := h.ov.same (hs _ (by omega))
  kp := fun s => (h.kp s).same fun b hb => hs b (by omega)
  lp := fun s v => (h.lp s v).same fun b hb => hs b (by omega)

theorem Idx.lt (h : Idx w N n ms es mb fk fl lv t oc fo) : N + 4 ≤ w.heap.size := lt_of_cell h.c0
theorem Idx.below (h : Idx w N n ms es mb fk fl lv t oc fo) (hb : Below w.heap.size w w') : Idx w' N n ms es mb fk fl lv t oc fo :=
  h.same fun b hlt => hb.block b (Nat.lt_of_lt_of_le hlt h.lt)
end


end Go.Proofs.Qxb6601594a.Mem
