import Derived.Test.Qxb6601594aSet
import Derived.Test.Qxb6601594aGrp
import Derived.Maps.AppendAt
import Derived.Deep.AppendLies
namespace Go.Proofs.Qxb6601594a.Map
open Go.ChangeShapes Go.WideShapes Go.ChangeAt Go.RowKit Go.Maps
set_option linter.unusedVariables false
theorem MapIs.block {w : World} {k : TypeId} {b n c : Nat} {f : Value → Option Value} (h : MapIs w k b n c f) : ∃ es clock, w.heap[b]? = some (.map es clock) := by
  obtain ⟨D, ⟨es, clock, h1, _⟩, _⟩ := h
  exact ⟨es, clock, h1⟩
theorem MapIs.grown {w w' : World} {k : TypeId} {b n c : Nat} {f : Value → Option Value} {row : Option Nat} (h : MapIs w k b n c f) (hg : w.grownBy w' row) (hne : row ≠ some b) : MapIs w' k b n c f :=
  h.same (hg.block b h.lt (Ne.symm hne))
end Go.Proofs.Qxb6601594a.Map

namespace Go.Proofs.Qxb6601594a.Mem
open Go.ChangeShapes Go.WideShapes Go.ChangeAt Go.RowKit Go.Maps
open Go.Proofs.Qxb6601594a.Plain Go.Proofs.Qxb6601594a.Map
set_option linter.unusedVariables false
set_option linter.unusedSimpArgs false

def ints (ps : List Nat) : List Value := ps.map fun (x : Nat) => Value.int .i64 (x : Int)
def strs (ks : List ByteArray) : List Value := ks.map fun s => Value.string s
def prs : List (ByteArray × ByteArray) → List Value
  | [] => []
  | p :: l => .string p.1 :: .string p.2 :: prs l
theorem prs_append : ∀ l l', prs (l ++ l') = prs l ++ prs l'
  | [], l' => rfl
  | p :: l, l' => by simp [prs, prs_append l l']
theorem prs_get : ∀ (l : List (ByteArray × ByteArray)) (j : Nat) (h : j < l.length), (prs l)[j * 2]? = some (.string l[j].1) ∧ (prs l)[j * 2 + 1]? = some (.string l[j].2)
  | p :: l, 0, h => ⟨rfl, rfl⟩
  | p :: l, j + 1, h => by
    have := prs_get l j (by simpa using h)
    have e : (j + 1) * 2 = j * 2 + 1 + 1 := by omega
    rw [e]
    exact this

/-- What a row may be that is turned beside the fixed blocks. -/
def Okr (w : World) (B : Nat) (row : Option Nat) : Prop := ∀ b, row = some b → b = B + 2 ∨ b = B + 3 ∨ (B + 4 ≤ b ∧ ∃ cur e, w.heap[b]? = some (.cells cur e (0, 0)))
theorem Okr.none (w : World) (B : Nat) : Okr w B none := fun b h => by cases h
theorem Okr.own {w : World} {B : Nat} {e : TypeId} {size : Nat} {v : Value} {n : Nat} {xs : List Value} (h : w.ownsRow (B + 4) e size v n xs) : Okr w B v.ownBlock := by
  intro b hb
  rcases h.2 with ⟨rfl, _⟩ | ⟨g, cap, cur, rfl, hg, hh, _⟩
  · simp [Value.ownBlock] at hb
  · simp only [Value.ownBlock, Option.some.injEq] at hb
    subst hb
    exact .inr (.inr ⟨hg, cur, e, hh⟩)
theorem own_ne {w : World} {b1 b2 : Nat} {e1 e2 : TypeId} {s1 s2 n1 n2 : Nat} {v1 v2 : Value} {x1 x2 : List Value} (h1 : w.ownsRow b1 e1 s1 v1 n1 x1) (h2 : w.ownsRow b2 e2 s2 v2 n2 x2) (hne : e1 ≠ e2) : v1.ownBlock = none ∨ v1.ownBlock ≠ v2.ownBlock := by
  rcases h1.2 with ⟨rfl, _⟩ | ⟨g1, c1, cur1, rfl, _, hh1, _⟩
  · exact .inl rfl
  · right
    rcases h2.2 with ⟨rfl, _⟩ | ⟨g2, c2, cur2, rfl, _, hh2, _⟩
    · simp [Value.ownBlock]
    · simp only [Value.ownBlock, ne_eq, Option.some.injEq]
      intro e
      rw [e, hh2] at hh1
      simp only [Option.some.injEq, Obj.cells.injEq] at hh1
      exact hne hh1.2.1.symm
theorem own_low {w : World} {b1 : Nat} {e1 : TypeId} {s1 n1 : Nat} {v1 : Value} {x1 : List Value} (h1 : w.ownsRow b1 e1 s1 v1 n1 x1) {c : Nat} (hc : c < b1) : v1.ownBlock = none ∨ v1.ownBlock ≠ some c := by
  cases hv : v1.ownBlock with
  | none => exact .inl rfl
  | some b =>
    right
    have := (h1.lt b hv).1
    simp only [ne_eq, Option.some.injEq]
    omega
theorem own_none {w w' : World} {b1 : Nat} {e1 : TypeId} {s1 n1 : Nat} {v1 : Value} {x1 : List Value} (h1 : w.ownsRow b1 e1 s1 v1 n1 x1) (hg : w.grownBy w' none) : w'.ownsRow b1 e1 s1 v1 n1 x1 := h1.kept hg (by cases v1.ownBlock <;> simp)

/-- The rows of places and the roles' maps. -/
structure Fx (w : World) (B n rm re : Nat) (mb : Nat → Nat) (lv : Nat → ByteArray → Option ByteArray) : Prop where
  mrow : w.rowIs B 43 n (fun j => if j < rm then .map (some (mb j)) else .map none)
  erow : w.rowIs (B + 1) 3 n (fun j => if j < re then .int .i64 (j : Int) else .int .i64 0)
  mp : ∀ j, j < rm → B + 4 ≤ mb j ∧ ∃ c k f, MapIs w 9 (mb j) c k f ∧ ∀ s, f (.string s) = (lv j s).map .string

section
variable {w w' : World} {B n rm re : Nat} {mb : Nat → Nat} {lv : Nat → ByteArray → Option ByteArray} {row : Option Nat}
theorem Fx.grown (h : Fx w B n rm re mb lv) (hg : w.grownBy w' row) (ho : Okr w B row) : Fx w' B n rm re mb lv := by
  refine ⟨h.mrow.of_block (hg.block _ h.mrow.lt ?_), h.erow.of_block (hg.block _ h.erow.lt ?_), fun j hj => ?_⟩
  · intro e; rcases ho _ e.symm with h1 | h1 | h1 <;> omega
  · intro e; rcases ho _ e.symm with h1 | h1 | h1 <;> omega
  · obtain ⟨h0, c, k, f, hm, hf⟩ := h.mp j hj
    refine ⟨h0, c, k, f, hm.grown hg ?_, hf⟩
    intro e
    rcases ho _ e with h1 | h1 | ⟨_, cur, e', h1⟩
    · omega
    · omega
    · obtain ⟨es, clock, h2⟩ := hm.block
      rw [h1] at h2; cases h2
end

/-- Groups of places: each in a row of its own. -/
structure Rw (w : World) (base : Nat) (tg : Nat → G) (val : G → Value) (ps : G → List Nat) : Prop where
  own : ∀ g, w.ownsRow base 3 1 (val g) (ps g).length (ints (ps g))
  tag : ∀ g b, (val g).ownBlock = some b → tg b = g

section
variable {w w' : World} {base : Nat} {tg : Nat → G} {val : G → Value} {ps : G → List Nat} {row : Option Nat}
theorem Rw.kept (h : Rw w base tg val ps) (hg : w.grownBy w' row) (hne : ∀ g, (val g).ownBlock = none ∨ (val g).ownBlock ≠ row) : Rw w' base tg val ps :=
  ⟨fun g => (h.own g).kept hg (hne g), h.tag⟩
theorem Rw.alloc (h : Rw w base tg val ps) (o : Obj) : Rw (w.alloc o) base tg val ps := ⟨fun g => (h.own g).alloc o, h.tag⟩

theorem infoI : (Try.prog.info? 3).map (fun i => (i.zero, i.size, i.bytes)) = some (some (.int .i64 0), 1, 8) := by kernel_rfl
theorem infoS : (Try.prog.info? 9).map (fun i => (i.zero, i.size, i.bytes)) = some (some (.string ByteArray.empty), 1, 16) := by kernel_rfl
theorem infoL : (Try.prog.info? 36).map (fun i => (i.zero, i.size, i.bytes)) = some (some (.agg #[.string ByteArray.empty, .string ByteArray.empty]), 2, 32) := by kernel_rfl

theorem Rw.append (h : Rw w base tg val ps) (g : G) (x : Nat) (hl : (ps g).length ≤ 1000000) (hbase : base ≤ w.heap.size) :
    ∃ v' w' tg', (Builtin.append_ #[39, 39] 39 #[val g, .slice (some ⟨w.heap.size, 0, none⟩) 1 1]).run Try.prog (w.alloc (.cells #[.int .i64 (x : Int)] 3)) = .ok v' w' ∧
      Rw w' base tg' (updG val g v') (updG ps g (ps g ++ [x])) ∧ (w.alloc (.cells #[.int .i64 (x : Int)] 3)).grownBy w' (val g).ownBlock ∧ ∃ a l c, v' = .slice a l c := by
  obtain ⟨i, hi, hzz⟩ := Option.map_eq_some_iff.1 infoI
  simp only [Prod.mk.injEq] at hzz
  obtain ⟨hz, hs, hb⟩ := hzz
  have h1 := h.alloc (.cells #[.int .i64 (x : Int)] 3)
  have hlg : (ps g).length + 1 ≤ maxLen := by simp only [maxLen]; omega
  obtain ⟨v', w', hr, ho, hg, _, hat⟩ := run_append_own_at (P := Try.prog) (w.alloc (.cells #[.int .i64 (x : Int)] 3)) base 39 39 3 i _ 1 8 Try.underlying39 hi hz hs hb rfl (by omega) (val g) _ _ (h1.own g)
    ⟨w.heap.size, 0, none⟩ 1 1 [.int .i64 (x : Int)] rfl (cell_one_new _ _ _) (by simp [Value.oneCell']) hlg (by omega) (by simp; omega)
  refine ⟨v', w', fun b => if b = w.heap.size + 1 then g else tg b, hr, ⟨fun g' => ?_, fun g' b hb' => ?_⟩, hg, ?_⟩
  · by_cases e : g' = g
    · subst e
      rw [updG_same, updG_same]
      have e1 : ints (ps g' ++ [x]) = ints (ps g') ++ [.int .i64 (x : Int)] := by simp [ints]
      have e2 : (ps g' ++ [x]).length = (ps g').length + 1 := by simp
      rw [e1, e2]
      exact ho
    · rw [updG_other _ _ e, updG_other _ _ e]
      refine (h1.own g').kept hg ?_
      cases hv : (val g').ownBlock with
      | none => exact .inl rfl
      | some b =>
        right
        intro e2
        have t1 := h.tag g' b hv
        have t2 := h.tag g b e2.symm
        exact e (t1.symm.trans t2)
  · by_cases e : g' = g
    · subst e
      rw [updG_same] at hb'
      rcases hat with h2 | h2
      · rw [h2] at hb'
        have := h.tag g' b hb'
        show (if b = w.heap.size + 1 then g' else tg b) = g'
        split
        · rfl
        · exact this
      · rw [h2] at hb'
        simp at hb'
        show (if b = w.heap.size + 1 then g' else tg b) = g'
        rw [if_pos hb'.symm]
    · rw [updG_other _ _ e] at hb'
      have := ((h.own g').lt b hb').2
      show (if b = w.heap.size + 1 then g else tg b) = g'
      rw [if_neg (by omega)]
      exact h.tag g' b hb'
  · rcases ho.2 with ⟨rfl, _⟩ | ⟨g', cap, cur, rfl, _⟩ <;> exact ⟨_, _, _, rfl⟩
end
end Go.Proofs.Qxb6601594a.Mem
