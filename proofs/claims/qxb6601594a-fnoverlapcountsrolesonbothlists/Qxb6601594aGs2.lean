import Derived.Test.Qxb6601594aGst
import Derived.Test.Qxb6601594aFit
namespace Go.Proofs.Qxb6601594a.Mem
open Go.ChangeShapes Go.WideShapes Go.ChangeAt Go.RowKit Go.Maps
open Go.Proofs.Qxb6601594a.Plain Go.Proofs.Qxb6601594a.Map
set_option linter.unusedVariables false
set_option linter.unusedSimpArgs false

theorem grown_set (w : World) (a : Addr) (v : Value) : w.grownBy (w.setCell a v) (some a.block) :=
  ⟨rfl, rfl, rfl, by simp, fun k _ hk => heap_setCell_other w a k v (fun e => hk (by simp [e]))⟩

section
variable {W w w' : World} {Q : Nat} {kv pv : Value} {ps : G → List Nat} {tg : Nat → G} {val : G → Value} {fk fl : Value → Option Value} {ks : List ByteArray} {pr : List (ByteArray × ByteArray)}

/-- A block turns that is none of the groups'. -/
theorem Gs.away (h : Gs W w Q kv pv ps tg val fk fl ks pr) {c : Nat} (hg : w.grownBy w' (some c)) (hc : W.heap.size ≤ c) (h2 : c ≠ W.heap.size + 2) (h3 : c ≠ W.heap.size + 3) (hk : c < W.heap.size + 4 ∨ ∃ es clock, w.heap[c]? = some (.map es clock)) : Gs W w' Q kv pv ps tg val fk fl ks pr := by
  have ne : ∀ {e : TypeId} {size : Nat} {v : Value} {n : Nat} {xs : List Value}, w.ownsRow (W.heap.size + 4) e size v n xs → v.ownBlock = none ∨ v.ownBlock ≠ some c := by
    intro e size v n xs ho
    rcases hk with hk | ⟨es, clock, hk⟩
    · exact own_low ho hk
    · right
      intro e1
      rcases Okr.own ho _ e1 with h4 | h4 | ⟨_, cur, e', h4⟩
      · exact h2 h4
      · exact h3 h4
      · rw [h4] at hk; cases hk
  exact { h with
    bl := h.bl.grown hg h.bl.size (fun j hj => by cases hj; exact hc)
    sz := Nat.le_trans h.sz hg.size
    rw := h.rw.kept hg (fun g => ne (h.rw.own g))
    key := by obtain ⟨q, c, h1, h2'⟩ := h.key; exact ⟨q, c, h1, h2'.grown hg (by simp; omega)⟩
    lab := by obtain ⟨q, c, h1, h2'⟩ := h.lab; exact ⟨q, c, h1, h2'.grown hg (by simp; omega)⟩
    keys := h.keys.kept hg (ne h.keys)
    pairs := h.pairs.kept hg (ne h.pairs) }
end

section
variable {w w' : World} {B n rm re : Nat} {mb : Nat → Nat} {lv : Nat → ByteArray → Option ByteArray}
theorem Fx.setEvery (h : Fx w B n rm re mb lv) : Fx (w.setCell ⟨B + 1, re, none⟩ (.int .i64 (re : Int))) B n rm (re + 1) mb lv := by
  refine ⟨h.mrow.setOther (by simp) _, (h.erow.set re _).congr fun j hj => ?_, fun j hj => ?_⟩
  · by_cases e : j = re
    · subst e; simp
    · by_cases e2 : j < re
      · simp [e, e2, show j < re + 1 by omega]
      · simp [e, e2, show ¬ j < re + 1 by omega]
  · obtain ⟨h0, c, k, f, hm, hf⟩ := h.mp j hj
    exact ⟨h0, c, k, f, hm.grown (grown_set _ _ _) (by simp; omega), hf⟩
theorem Fx.away (h : Fx w B n rm re mb lv) {M : Nat} (hg : w.grownBy w' (some M)) (hM : B + 4 ≤ M) (hne : ∀ j, j < rm → mb j < M) : Fx w' B n rm re mb lv := by
  refine ⟨h.mrow.of_block (hg.block _ h.mrow.lt (by simp; omega)), h.erow.of_block (hg.block _ h.erow.lt (by simp; omega)), fun j hj => ?_⟩
  obtain ⟨h0, c, k, f, hm, hf⟩ := h.mp j hj
  exact ⟨h0, c, k, f, hm.grown hg (by have := hne j hj; simp; omega), hf⟩
theorem Fx.push (h : Fx w B n rm re mb lv) {M c k : Nat} {f : Value → Option Value} (hM : B + 4 ≤ M) (hm : MapIs w 9 M c k f) (hf : ∀ s, f (.string s) = (lv rm s).map .string) :
    Fx (w.setCell ⟨B, rm, none⟩ (.map (some M))) B n (rm + 1) re (fun j => if j = rm then M else mb j) lv := by
  refine ⟨(h.mrow.set rm _).congr fun j hj => ?_, h.erow.setOther (by simp) _, fun j hj => ?_⟩
  · by_cases e : j = rm
    · subst e; simp
    · by_cases e2 : j < rm
      · simp [e, e2, show j < rm + 1 by omega]
      · simp [e, e2, show ¬ j < rm + 1 by omega]
  · by_cases e : j = rm
    · subst e
      simp only [if_true]
      exact ⟨hM, c, k, f, hm.grown (grown_set _ _ _) (by simp; omega), hf⟩
    · simp only [if_neg e]
      obtain ⟨h0, c, k, f, hm, hf⟩ := h.mp j (by omega)
      exact ⟨h0, c, k, f, hm.grown (grown_set _ _ _) (by simp; omega), hf⟩
theorem Fx.lt (h : Fx w B n rm re mb lv) : ∀ j, j < rm → mb j < w.heap.size := fun j hj => by
  obtain ⟨h0, c, k, f, hm, hf⟩ := h.mp j hj
  exact hm.lt
end

/-- A role's map, its first i labels in it. -/
def Rm (w : World) (M : Nat) (K V : Nat → ByteArray) (i : Nat) : Prop := ∃ c f, MapIs w 9 M i c f ∧ ∀ s, f (.string s) = (lastV K V i s).map .string
theorem Rm.store [DecidableEq Value] {w : World} {M i : Nat} {K V : Nat → ByteArray} (h : Rm w M K V i) (hi : i ≤ 1000000) (hk : (K i).size ≤ 9223372036854775807) :
    ∃ w', (Instr.mapUpdate 43 (.map (some M)) (.string (K i)) (.string (V i))).run Try.prog w = .ok () w' ∧ Rm w' M K V (i + 1) ∧ w.grownBy w' (some M) := by
  obtain ⟨c, f, hm, hf⟩ := h
  obtain ⟨w', hr, hm', hg, _⟩ := hm.store K9 Try.underlying43 (by simp only [maxLen]; omega) (key9 hk) (.string (V i))
  refine ⟨w', hr, ⟨_, _, hm', fun s => ?_⟩, hg⟩
  by_cases e : K i = s
  · subst e; rw [upd_same, lastV_same]; rfl
  · rw [upd_other _ _ (by simpa using Ne.symm e), lastV_other _ _ _ e]; exact hf s

/-- At the start. -/
theorem start8 (W : World) (n : Nat) (lv : Nat → ByteArray → Option ByteArray) (K V : Nat → ByteArray) (m : Nat) (w : World) (hw : w = (((W.alloc (.cells (madeCells #[.map none] n) 43)).alloc (.cells (madeCells #[.int .i64 0] n) 3)).alloc (.map #[] 0)).alloc (.map #[] 0)) :
    Gs W w 0 (.slice none 0 0) (.slice none 0 0) (fun g => pls (fun j => onB g (lv j g.1)) 0) (fun _ => (ByteArray.empty, none)) (fun _ => .slice none 0 0) (fun _ => none) (fun _ => none) [] [] ∧ Fx w W.heap.size n 0 0 (fun _ => 0) lv := by
  subst hw
  refine ⟨{
    bl := ((((Below.refl _ _).alloc (Nat.le_refl _) _).alloc (by simp) _).alloc (by simp; omega) _).alloc (by simp; omega) _
    sz := by simp
    rw := ⟨fun g => World.ownsRow_nil _ _ _ _, fun g b hb => by simp [Value.ownBlock] at hb⟩
    key := ⟨0, 0, Nat.le_refl _, ?_⟩
    lab := ⟨0, 0, Nat.le_refl _, ?_⟩
    kval := fun s => rfl
    lval := fun s u => rfl
    keys := World.ownsRow_nil _ _ _ _
    pairs := World.ownsRow_nil _ _ _ _
    kin := fun s hs => absurd rfl hs
    lin := fun s u hs => absurd rfl hs
    kq := Nat.le_refl _
    pq := Nat.le_refl _
    ksz := fun s hs => by simp at hs
    psz := fun s hs => by simp at hs }, ?_, ?_, fun j hj => absurd hj (by omega)⟩
  · have := MapIs.made ((W.alloc (.cells (madeCells #[.map none] n) 43)).alloc (.cells (madeCells #[.int .i64 0] n) 3)) 9
    simp only [World.size_alloc] at this
    exact this.grown (grown_alloc _ _) (by simp)
  · have := MapIs.made (((W.alloc (.cells (madeCells #[.map none] n) 43)).alloc (.cells (madeCells #[.int .i64 0] n) 3)).alloc (.map #[] 0)) 36
    simp only [World.size_alloc] at this
    exact this
  · have := World.rowIs_made W (.map none) n 43
    exact (((this.alloc _).alloc _).alloc _).congr fun i hi => by simp
  · have := World.rowIs_made (W.alloc (.cells (madeCells #[.map none] n) 43)) (.int .i64 0) n 3
    simp only [World.size_alloc] at this
    exact ((this.alloc _).alloc _).congr fun i hi => by simp
end Go.Proofs.Qxb6601594a.Mem
