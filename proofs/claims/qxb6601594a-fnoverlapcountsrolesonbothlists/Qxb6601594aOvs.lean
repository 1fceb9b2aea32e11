import Derived.Test.Qxb6601594aOvl
namespace Go.Proofs.Qxb6601594a.Mem
open Go.ChangeShapes Go.WideShapes Go.ChangeAt Go.RowKit Go.Maps
open Go.Proofs.Qxb6601594a.Plain Go.Proofs.Qxb6601594a.Map
set_option linter.unusedVariables false
set_option linter.unusedSimpArgs false
section
variable {N n : Nat} {ms es : Addr} {mb : Nat → Nat} {fk fl : Value → Option Value} {lv : Nat → ByteArray → Option ByteArray} {t : Int} {oc : Nat} {fo : Value → Option Value}

/-- Three cells of a role list at block g. -/
def RL (w : World) (g : Nat) (k : Int) (a b : ByteArray) : Prop :=
  w.cell? ⟨g, 0, none⟩ = some (.int .i64 k) ∧ w.cell? ⟨g, 1, none⟩ = some (.string a) ∧ w.cell? ⟨g, 2, none⟩ = some (.string b) ∧ ∀ i, w.frozen? ⟨g, i, none⟩ = false

theorem RL.new (w : World) (k : Int) (a b : ByteArray) {g : Nat} (hg : g = w.heap.size) : RL (w.alloc (.cells #[.int .i64 k, .string a, .string b] 53)) g k a b := by
  subst hg
  have hh := (MapKept.heap_alloc w (.cells #[.int .i64 k, .string a, .string b] 53)).1
  refine ⟨?_, ?_, ?_, fun i => ?_⟩
  · unfold World.cell?; simp only [hh]; rfl
  · unfold World.cell?; simp only [hh]; rfl
  · unfold World.cell?; simp only [hh]; rfl
  · unfold World.frozen?; simp only [hh]; rfl
theorem RL.same {w w' : World} {g : Nat} {k : Int} {a b : ByteArray} (h : RL w g k a b) (hs : w'.heap[g]? = w.heap[g]?) : RL w' g k a b :=
  ⟨cell_same h.1 hs, cell_same h.2.1 hs, cell_same h.2.2.1 hs, fun i => by rw [frozen_same (a := ⟨g, i, none⟩) hs]; exact h.2.2.2 i⟩
theorem RL.lt {w : World} {g : Nat} {k : Int} {a b : ByteArray} (h : RL w g k a b) : g < w.heap.size := lt_of_cell h.1
theorem RL.below {w w' : World} {g : Nat} {k : Int} {a b : ByteArray} (h : RL w g k a b) {B : Nat} (hb : Below B w w') (hB : g < B) : RL w' g k a b := h.same (hb.block g hB)
theorem RL.alloc {w : World} {g : Nat} {k : Int} {a b : ByteArray} (h : RL w g k a b) (o : Obj) : RL (w.alloc o) g k a b := h.below ((Below.refl w.heap.size w).alloc (Nat.le_refl _) o) h.lt
theorem RL.drewN {w : World} {g : Nat} {k : Int} {a b : ByteArray} (h : RL w g k a b) (q : Nat) : RL (w.drewN q) g k a b := h.same (by rw [World.heap_drewN])

/-- The two boxes, the two variables, and all below as it was. -/
structure St (W w : World) (g1 g2 : Nat) (k1 : Int) (a b : ByteArray) (k2 : Int) (c d : ByteArray) (k3 : Int) (a3 b3 : ByteArray) (k4 : Int) (c4 d4 : ByteArray) : Prop where
  ne : g1 ≠ g2
  lo1 : W.heap.size + 2 ≤ g1
  lo2 : W.heap.size + 2 ≤ g2
  r1 : RL w W.heap.size k1 a b
  r2 : RL w (W.heap.size + 1) k2 c d
  r3 : RL w g1 k3 a3 b3
  r4 : RL w g2 k4 c4 d4
  bl : Below W.heap.size W w

section
variable {W w w' : World} {g1 g2 : Nat} {k1 k2 k3 k4 : Int} {a b c d a3 b3 c4 d4 : ByteArray}
theorem St.same (h : St W w g1 g2 k1 a b k2 c d k3 a3 b3 k4 c4 d4) (hb : Below w.heap.size w w') : St W w' g1 g2 k1 a b k2 c d k3 a3 b3 k4 c4 d4 :=
  ⟨h.ne, h.lo1, h.lo2, h.r1.below hb h.r1.lt, h.r2.below hb h.r2.lt, h.r3.below hb h.r3.lt, h.r4.below hb h.r4.lt, h.bl.trans (hb.mono h.bl.size)⟩
end
/-- The six cells of the two boxes. -/
def Six (w : World) (g : Nat) (k1 : Int) (a b : ByteArray) (k2 : Int) (c d : ByteArray) : Prop :=
  w.cell? ⟨g, 0, none⟩ = some (.int .i64 k1) ∧ w.cell? ⟨g, 1, none⟩ = some (.string a) ∧ w.cell? ⟨g, 2, none⟩ = some (.string b) ∧
  w.cell? ⟨g + 1, 0, none⟩ = some (.int .i64 k2) ∧ w.cell? ⟨g + 1, 1, none⟩ = some (.string c) ∧ w.cell? ⟨g + 1, 2, none⟩ = some (.string d)
section
variable {W w w' : World} {g1 g2 : Nat} {k1 k2 k3 k4 : Int} {a b c d a3 b3 c4 d4 : ByteArray}
theorem St.six (h : St W w g1 g2 k1 a b k2 c d k3 a3 b3 k4 c4 d4) : Six w W.heap.size k1 a b k2 c d := ⟨h.r1.1, h.r1.2.1, h.r1.2.2.1, h.r2.1, h.r2.2.1, h.r2.2.2.1⟩
theorem St.idx (h : St W w g1 g2 k1 a b k2 c d k3 a3 b3 k4 c4 d4) {oc : Nat} (hI : Idx W N n ms es mb fk fl lv t oc fo) : Idx w N n ms es mb fk fl lv t oc fo := hI.below h.bl
/-- places, at any world of this call. -/
theorem placesSt {oc : Nat} (hI : Idx W N n ms es mb fk fl lv t oc fo) (h : St W w g1 g2 k1 a b k2 c d k3 a3 b3 k4 c4 d4) (kd : Int) (ky vl : ByteArray) (hk : ky.size ≤ 9223372036854775807) (hv : vl.size ≤ 9223372036854775807) :
    Calls Try.prog 24 #[.pointer (some ⟨N + 3, 0, none⟩), .agg #[.int .i64 kd, .string ky, .string vl]] w fun e w' =>
      (∃ x cap, e = .returned (.slice x (cnt (fun i => onP kd vl (lv i ky)) n) cap)) ∧ Hid (St W w' g1 g2 k1 a b k2 c d k3 a3 b3 k4 c4 d4) ∧ Six w' W.heap.size k1 a b k2 c d := by
  refine (places24 kd ky vl _ (h.idx hI) hk hv).mono ?_
  rintro e w' ⟨⟨v, rfl, x, cap, rfl, _⟩, hb⟩
  have h2 := h.same hb
  exact ⟨⟨x, cap, by rw [pls_length]⟩, h2, h2.six⟩
end
/-- The shorter list's role list (k3 a3 b3) and the longer one's, out of the two. -/
structure Sh (lv : Nat → ByteArray → Option ByteArray) (n : Nat) (k1 : Int) (a b : ByteArray) (k2 : Int) (c d : ByteArray) (k3 : Int) (a3 b3 : ByteArray) (k4 : Int) (c4 d4 : ByteArray) : Prop where
  sa : a3.size ≤ 9223372036854775807
  sb : b3.size ≤ 9223372036854775807
  sc : c4.size ≤ 9223372036854775807
  sd : d4.size ≤ 9223372036854775807
  both : cnt (fun i => onP k3 b3 (lv i a3) && onP k4 d4 (lv i c4)) n = cnt (fun i => onP k1 b (lv i a) && onP k2 d (lv i c)) n
  less : cnt (fun i => onP k3 b3 (lv i a3)) n = min (cnt (fun i => onP k1 b (lv i a)) n) (cnt (fun i => onP k2 d (lv i c)) n)
theorem Sh.keep {lv : Nat → ByteArray → Option ByteArray} {n : Nat} {k1 : Int} {a b : ByteArray} {k2 : Int} {c d : ByteArray} (ha : a.size ≤ 9223372036854775807) (hb : b.size ≤ 9223372036854775807) (hc : c.size ≤ 9223372036854775807) (hd : d.size ≤ 9223372036854775807)
    (h : ¬ cnt (fun i => onP k2 d (lv i c)) n < cnt (fun i => onP k1 b (lv i a)) n) : Sh lv n k1 a b k2 c d k1 a b k2 c d := ⟨ha, hb, hc, hd, rfl, by omega⟩
theorem Sh.swap {lv : Nat → ByteArray → Option ByteArray} {n : Nat} {k1 : Int} {a b : ByteArray} {k2 : Int} {c d : ByteArray} (ha : a.size ≤ 9223372036854775807) (hb : b.size ≤ 9223372036854775807) (hc : c.size ≤ 9223372036854775807) (hd : d.size ≤ 9223372036854775807)
    (h : cnt (fun i => onP k2 d (lv i c)) n < cnt (fun i => onP k1 b (lv i a)) n) : Sh lv n k1 a b k2 c d k2 c d k1 a b := ⟨hc, hd, ha, hb, cnt_congr fun i _ => Bool.and_comm _ _, by omega⟩
/-- A role list stored at block g. -/
abbrev set3 (w : World) (g : Nat) (k : Int) (a b : ByteArray) : World := ((w.setCell ⟨g, 0, none⟩ (.int .i64 k)).setCell ⟨g, 1, none⟩ (.string a)).setCell ⟨g, 2, none⟩ (.string b)
theorem RL.set3 {w : World} {g : Nat} {k k' : Int} {a b a' b' : ByteArray} (h : RL w g k a b) : RL (Mem.set3 w g k' a' b') g k' a' b' := by
  obtain ⟨h0, h1, h2, hf⟩ := h
  unfold Mem.set3
  refine ⟨?_, ?_, ?_, fun i => ?_⟩
  · simp [World.cell?_setCell_other, World.cell?_setCell_same _ _ _ h0]
  · rw [World.cell?_setCell_other _ _ _ _ (by simp)]
    exact World.cell?_setCell_same _ _ _ (u := .string a) (by rw [World.cell?_setCell_other _ _ _ _ (by simp)]; exact h1)
  · exact World.cell?_setCell_same _ _ _ (u := .string b) (by rw [World.cell?_setCell_other _ _ _ _ (by simp), World.cell?_setCell_other _ _ _ _ (by simp)]; exact h2)
  · simp only [World.frozen?_setCell]; exact hf i
theorem RL.far3 {w : World} {g g' : Nat} {k k' : Int} {a b a' b' : ByteArray} (h : RL w g k a b) (hne : g ≠ g') : RL (Mem.set3 w g' k' a' b') g k a b :=
  h.same (by rw [Below.heap_setCell _ _ _ _ hne, Below.heap_setCell _ _ _ _ hne, Below.heap_setCell _ _ _ _ hne])
theorem St.swap {W w : World} {g1 g2 : Nat} {k1 k2 k3 k4 : Int} {a b c d a3 b3 c4 d4 : ByteArray} (h : St W w g1 g2 k1 a b k2 c d k3 a3 b3 k4 c4 d4) :
    St W (Mem.set3 (Mem.set3 w g1 k2 c d) g2 k1 a b).drew g1 g2 k1 a b k2 c d k2 c d k1 a b := by
  have l1 := h.lo1
  have l2 := h.lo2
  have hd : ∀ {w : World} {g : Nat} {k : Int} {a b : ByteArray}, RL w g k a b → RL w.drew g k a b := fun h => h.same rfl
  refine ⟨h.ne, l1, l2, hd ((h.r1.far3 (by omega)).far3 (by omega)), hd ((h.r2.far3 (by omega)).far3 (by omega)), hd (h.r3.set3.far3 h.ne), hd ((h.r4.far3 (Ne.symm h.ne)).set3), ?_⟩
  exact (((((((h.bl.setCell (by show _ ≤ g1; omega) _).setCell (by show _ ≤ g1; omega) _).setCell (by show _ ≤ g1; omega) _).setCell (by show _ ≤ g2; omega) _).setCell (by show _ ≤ g2; omega) _).setCell (by show _ ≤ g2; omega) _)).drew
section
variable {w w' : World} {oc : Nat}
/-- The index, one field of which was set. -/
theorem Idx.setTests (h : Idx w N n ms es mb fk fl lv t oc fo) (t' : Int) : Idx (w.setCell ⟨N + 3, 5, none⟩ (.int .i64 t')) N n ms es mb fk fl lv t' oc fo := by
  have hs : ∀ b, b < N + 3 → (w.setCell ⟨N + 3, 5, none⟩ (.int .i64 t')).heap[b]? = w.heap[b]? := fun b hb => Below.heap_setCell _ _ _ _ (by show b ≠ N + 3; omega)
  have ho : ∀ i, i ≠ 5 → (w.setCell ⟨N + 3, 5, none⟩ (.int .i64 t')).cell? ⟨N + 3, i, none⟩ = w.cell? ⟨N + 3, i, none⟩ := fun i hi => World.cell?_setCell_other _ _ _ _ (by simp <;> omega)
  exact {
    c0 := by rw [ho 0 (by omega)]; exact h.c0
    c1 := by rw [ho 1 (by omega)]; exact h.c1
    c2 := by rw [ho 2 (by omega)]; exact h.c2
    c3 := by rw [ho 3 (by omega)]; exact h.c3
    c4 := by rw [ho 4 (by omega)]; exact h.c4
    c5 := World.cell?_setCell_same _ _ _ h.c5
    fz := fun i => by rw [World.frozen?_setCell]; exact h.fz i
    mlt := h.mlt
    elt := h.elt
    maps := fun i hi => cell_same (h.maps i hi) (by rw [add_block]; exact hs _ (Nat.lt_of_lt_of_le h.mlt (by omega)))
    every := fun i hi => cell_same (h.every i hi) (by rw [add_block]; exact hs _ (Nat.lt_of_lt_of_le h.elt (by omega)))
    mp := fun i hi => by
      obtain ⟨h1, c, k, f, h2, h3⟩ := h.mp i hi
      exact ⟨h1, c, k, f, h2.same (hs _ (by omega)), h3⟩
    lbl := by
      obtain ⟨c, k, h1⟩ := h.lbl
      exact ⟨c, k, h1.same (hs _ (by omega))⟩
    key := by
      obtain ⟨c, k, h1⟩ := h.key
      exact ⟨c, k, h1.same (hs _ (by omega))⟩
    ov := h.ov.same (hs _ (by omega))
    kp := fun s => (h.kp s).same fun b hb => hs b (by omega)
    lp := fun s v => (h.lp s v).same fun b hb => hs b (by omega) }

/-- The index, whose memory of overlaps was turned. -/
theorem Idx.remap (h : Idx w N n ms es mb fk fl lv t oc fo) {oc' : Nat} {fo' : Value → Option Value} (hm : MapIs w' 60 (N + 2) oc' oc' fo') (hs : ∀ b, b < N + 4 → b ≠ N + 2 → w'.heap[b]? = w.heap[b]?) : Idx w' N n ms es mb fk fl lv t oc' fo' where
  c0 := cell_same h.c0 (hs _ (by show N + 3 < N + 4; omega) (by show N + 3 ≠ N + 2; omega))
  c1 := cell_same h.c1 (hs _ (by show N + 3 < N + 4; omega) (by show N + 3 ≠ N + 2; omega))
  c2 := cell_same h.c2 (hs _ (by show N + 3 < N + 4; omega) (by show N + 3 ≠ N + 2; omega))
  c3 := cell_same h.c3 (hs _ (by show N + 3 < N + 4; omega) (by show N + 3 ≠ N + 2; omega))
  c4 := cell_same h.c4 (hs _ (by show N + 3 < N + 4; omega) (by show N + 3 ≠ N + 2; omega))
  c5 := cell_same h.c5 (hs _ (by show N + 3 < N + 4; omega) (by show N + 3 ≠ N + 2; omega))
  fz := fun i => by rw [frozen_same (hs _ (by show N + 3 < N + 4; omega) (by show N + 3 ≠ N + 2; omega))]; exact h.fz i
  mlt := h.mlt
  elt := h.elt
  maps := fun i hi => cell_same (h.maps i hi) (by rw [add_block]; exact hs _ (Nat.lt_of_lt_of_le h.mlt (by omega)) (by have := h.mlt; omega))
  every := fun i hi => cell_same (h.every i hi) (by rw [add_block]; exact hs _ (Nat.lt_of_lt_of_le h.elt (by omega)) (by have := h.elt; omega))
  mp := fun i hi => by
    obtain ⟨h1, c, k, f, h2, h3⟩ := h.mp i hi
    exact ⟨h1, c, k, f, h2.same (hs _ (by omega) (by omega)), h3⟩
  lbl := by
    obtain ⟨c, k, h1⟩ := h.lbl
    exact ⟨c, k, h1.same (hs _ (by omega) (by omega))⟩
  key := by
    obtain ⟨c, k, h1⟩ := h.key
    exact ⟨c, k, h1.same (hs _ (by omega) (by omega))⟩
  ov := hm
  kp := fun s => (h.kp s).same fun b hb => hs b (by omega) (by omega)
  lp := fun s v => (h.lp s v).same fun b hb => hs b (by omega) (by omega)
end

/-- Behind the tests: the index with its count of tests, and the two boxes. -/
structure Fin (W w : World) (N n : Nat) (ms es : Addr) (mb : Nat → Nat) (fk fl : Value → Option Value) (lv : Nat → ByteArray → Option ByteArray) (t : Int) (fo : Value → Option Value) (k1 : Int) (a b : ByteArray) (k2 : Int) (c d : ByteArray) : Prop where
  idx : Idx w N n ms es mb fk fl lv t 0 fo
  six : Six w W.heap.size k1 a b k2 c d
  bl : Below N W w
theorem Fin.drew {W w : World} {k1 k2 : Int} {a b c d : ByteArray} (h : Fin W w N n ms es mb fk fl lv t fo k1 a b k2 c d) : Fin W w.drew N n ms es mb fk fl lv t fo k1 a b k2 c d :=
  ⟨h.idx.below (Below.refl _ _).drew, h.six, h.bl.drew⟩
theorem St.fin {W w : World} {g1 g2 : Nat} {k1 k2 k3 k4 : Int} {a b c d a3 b3 c4 d4 : ByteArray} (h : St W w g1 g2 k1 a b k2 c d k3 a3 b3 k4 c4 d4) (hI : Idx W N n ms es mb fk fl lv t 0 fo) (t' : Int) :
    Fin W (w.setCell ⟨N + 3, 5, none⟩ (.int .i64 t')) N n ms es mb fk fl lv t' fo k1 a b k2 c d := by
  have hl := hI.lt
  have b1 : ∀ i, (w.setCell ⟨N + 3, 5, none⟩ (.int .i64 t')).cell? ⟨W.heap.size, i, none⟩ = w.cell? ⟨W.heap.size, i, none⟩ := fun i => World.cell?_setCell_other _ _ _ _ (by simp <;> omega)
  have b2 : ∀ i, (w.setCell ⟨N + 3, 5, none⟩ (.int .i64 t')).cell? ⟨W.heap.size + 1, i, none⟩ = w.cell? ⟨W.heap.size + 1, i, none⟩ := fun i => World.cell?_setCell_other _ _ _ _ (by simp <;> omega)
  refine ⟨(h.idx hI).setTests t', ?_, (h.bl.mono (by omega)).setCell (by show N ≤ N + 3; omega) _⟩
  unfold Six
  simp only [b1, b2]
  exact h.six
/-- Remembering the count. -/
theorem Fin.store [DecidableEq Value] {W w : World} {k1 k2 : Int} {a b c d : ByteArray} (h : Fin W w N n ms es mb fk fl lv t fo k1 a b k2 c d) (hk1 : (Lit.int .i64 k1).wf = true) (hk2 : (Lit.int .i64 k2).wf = true) (ha : a.size ≤ 9223372036854775807) (hb : b.size ≤ 9223372036854775807) (hc : c.size ≤ 9223372036854775807) (hd : d.size ≤ 9223372036854775807)
    (hfo : fo (.agg #[.int .i64 k1, .string a, .string b, .int .i64 k2, .string c, .string d]) = none) (hN : N + 4 ≤ W.heap.size) (v : Value) :
    ∃ w', (Instr.mapUpdate 57 (.map (some (N + 2))) (.agg #[.int .i64 k1, .string a, .string b, .int .i64 k2, .string c, .string d]) v).run Try.prog w = .ok () w' ∧
      Idx w' N n ms es mb fk fl lv t 1 (upd fo (.agg #[.int .i64 k1, .string a, .string b, .int .i64 k2, .string c, .string d]) v) ∧ Below N W w' ∧ Six w' W.heap.size k1 a b k2 c d := by
  obtain ⟨w', hrun, hm, hg, hs⟩ := h.idx.ov.store K60 Try.underlying57 (by decide) (key60 hk1 hk2 ha hb hc hd) v
  rw [hfo] at hm
  have hl := h.idx.lt
  have hbk : ∀ i, i < w.heap.size → i ≠ N + 2 → w'.heap[i]? = w.heap[i]? := fun i hi hne => hg.block i hi (by simp; exact hne)
  have hlt : W.heap.size + 1 < w.heap.size := lt_of_cell h.six.2.2.2.1
  have hx : ∀ (g i : Nat) (u : Value), g < w.heap.size → N + 4 ≤ g → w.cell? ⟨g, i, none⟩ = some u → w'.cell? ⟨g, i, none⟩ = some u := fun g i u h1 h2 h3 => cell_same h3 (hbk g h1 (by omega))
  refine ⟨w', hrun, h.idx.remap hm fun i hi hne => hbk i (by omega) hne, h.bl.trans ⟨hg.os, hg.tape, hg.output, hg.size, fun i hi => hbk i (by omega) (by omega)⟩, ?_⟩
  obtain ⟨e1, e2, e3, e4, e5, e6⟩ := h.six
  exact ⟨hx _ _ _ (by omega) hN e1, hx _ _ _ (by omega) hN e2, hx _ _ _ (by omega) hN e3, hx _ _ _ (by omega) (by omega) e4, hx _ _ _ (by omega) (by omega) e5, hx _ _ _ (by omega) (by omega) e6⟩
end
end Go.Proofs.Qxb6601594a.Mem
