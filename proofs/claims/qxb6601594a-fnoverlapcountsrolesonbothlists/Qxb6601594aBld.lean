import Derived.Test.Qxb6601594aCpy
import Derived.Deep.RegionHeld3
namespace Go.Proofs.Qxb6601594a.Mem
open Go.ChangeShapes Go.WideShapes Go.ChangeAt Go.RowKit Go.Maps
open Go.Proofs.Qxb6601594a.Plain Go.Proofs.Qxb6601594a.Map
set_option linter.unusedVariables false
set_option linter.unusedSimpArgs false

theorem info43 : (Try.prog.info? 43).map (fun i => (i.zero, i.size, i.bytes)) = some (some (.map none), 1, 8) := by kernel_rfl

section
variable {P : Program} {w : World} {ops : Array Oper} {rest : List Oper} {o : Oper} {a : Act} {Q : Exit → Act → World → Prop}
theorem wpList_append_run (hgd : o.guard = none) (s x : Operand) (t : TypeId) (ho : o.op = .call { callee := .builtin .append, args := #[s, x], argTypes := #[t, t] }) (v u v' : Value) (w' : World) (hs : a.eval s = v) (hx : a.eval x = u)
    (hr : (Builtin.append_ #[t, t] o.type #[v, u]).run P w = .ok v' w') (h : wpList P ops Q rest (a.put o.dst v') w') : wpList P ops Q (o :: rest) a w := by
  refine wpList_plain hgd fun K hK => ?_
  unfold Oper.wp execOp
  simp only [ho, resolve, invoke, builtin, Sem.run_bind, Sem.run_pure, Result.andThen_ok, List.map_toArray, List.map_cons, List.map_nil, hs, hx, hr]
  exact hK _ _ h
theorem step_append_run {K : Act → World → Prop} {E : Prop} (hgd : o.guard = none) (s x : Operand) (t : TypeId) (ho : o.op = .call { callee := .builtin .append, args := #[s, x], argTypes := #[t, t] }) (v u v' : Value) (w' : World) (hs : a.eval s = v) (hx : a.eval x = u)
    (hr : (Builtin.append_ #[t, t] o.type #[v, u]).run P w = .ok v' w') (h : K (a.put o.dst v') w') : if Region.wanted o (yielded ops a.tmps) = true then Oper.wp P o a w K Q else E := by
  have hw : Region.wanted o (yielded ops a.tmps) = true := by simp [Region.wanted, hgd]
  rw [if_pos hw]
  unfold Oper.wp execOp
  simp only [ho, resolve, invoke, builtin, Sem.run_bind, Sem.run_pure, Result.andThen_ok, List.map_toArray, List.map_cons, List.map_nil, hs, hx, hr]
  exact h
end

/-- The groups, whatever their rows. -/
def GS (W w : World) (Q : Nat) (kv pv : Value) (ps : G → List Nat) : Prop := ∃ tg val fk fl ks pr, Gs W w Q kv pv ps tg val fk fl ks pr
def FX (w : World) (B n rm re : Nat) (lv : Nat → ByteArray → Option ByteArray) : Prop := ∃ mb, Fx w B n rm re mb lv
/-- In the midst of a round: the role's map is filled. -/
def FXM (w : World) (B n r M : Nat) (lv : Nat → ByteArray → Option ByteArray) : Prop := B + 4 ≤ M ∧ ∃ mb, Fx w B n r (r + 1) mb lv ∧ ∀ j, j < r → mb j < M
theorem GS.bl {W w : World} {Q : Nat} {kv pv : Value} {ps : G → List Nat} (h : GS W w Q kv pv ps) : Below W.heap.size W w := by
  obtain ⟨_, _, _, _, _, _, h⟩ := h
  exact h.bl
theorem GS.sz {W w : World} {Q : Nat} {kv pv : Value} {ps : G → List Nat} (h : GS W w Q kv pv ps) : W.heap.size + 4 ≤ w.heap.size := by
  obtain ⟨_, _, _, _, _, _, h⟩ := h
  exact h.sz

/-- The role's map lies in its place. -/
def FXR (w : World) (B n r M : Nat) (lv : Nat → ByteArray → Option ByteArray) : Prop := ∃ mb, Fx w B n (r + 1) (r + 1) mb lv ∧ mb r = M
theorem FXR.grown {w w' : World} {B n r M : Nat} {lv : Nat → ByteArray → Option ByteArray} {row : Option Nat} (h : FXR w B n r M lv) (hg : w.grownBy w' row) (ho : Okr w B row) : FXR w' B n r M lv := by
  obtain ⟨mb, h1, h2⟩ := h
  exact ⟨mb, h1.grown hg ho, h2⟩
theorem FXR.by {w w' : World} {B n r M : Nat} {lv : Nat → ByteArray → Option ByteArray} (h : FXR w B n r M lv) (hf : ∀ n rm re mb lv, Fx w B n rm re mb lv → Fx w' B n rm re mb lv) : FXR w' B n r M lv := by
  obtain ⟨mb, h1, h2⟩ := h
  exact ⟨mb, hf _ _ _ _ _ h1, h2⟩
theorem FXR.look {w : World} {B n r M : Nat} {lv : Nat → ByteArray → Option ByteArray} (h : FXR w B n r M lv) {k u : ByteArray} (hk : k.size ≤ 9223372036854775807) (hu : lv r k = some u) :
    (Instr.lookup 43 (.map (some M)) (.string k) false).run Try.prog w = .ok (.string u) w := by
  obtain ⟨mb, h1, rfl⟩ := h
  obtain ⟨_, c, q, f, hm, hf⟩ := h1.mp r (by omega)
  rw [hm.look K9 Try.underlying43 (zero9 _) (key9 hk), hf, hu]
  rfl

/-- A slice of places: empty, or with a last one. -/
theorem last_cases {w : World} {base : Nat} {v : Value} {ps : List Nat} (h : w.ownsRow base 3 1 v ps.length (ints ps)) :
    (ps = [] ∧ ∃ a cap, v = .slice a 0 cap) ∨ ∃ (q x gb cap : Nat), ps.length = q + 1 ∧ ps[q]? = some x ∧ v = .slice (some ⟨gb, 0, none⟩) (q + 1) cap ∧ w.cell? ⟨gb, q, none⟩ = some (.int .i64 (x : Int)) := by
  by_cases e : ps.length = 0
  · left
    have e1 := List.eq_nil_of_length_eq_zero e
    refine ⟨e1, ?_⟩
    rcases h.2 with ⟨rfl, _⟩ | ⟨g, cap, cur, rfl, _⟩
    · exact ⟨none, 0, rfl⟩
    · exact ⟨_, cap, by rw [e]⟩
  · right
    obtain ⟨q, hq⟩ : ∃ q, ps.length = q + 1 := ⟨ps.length - 1, by omega⟩
    obtain ⟨g, cap, hv, _⟩ := h.form (by omega)
    subst hv
    have hqx : ps[q]? = some ps[q] := List.getElem?_eq_getElem (by omega)
    refine ⟨q, ps[q], g, cap, hq, hqx, by rw [hq], ?_⟩
    rw [h.cellAt q (by omega)]
    simp [ints, hqx]
section
variable {lv : Nat → ByteArray → Option ByteArray} {K V : Nat → ByteArray} {m r i : Nat} {g : G} {q x : Nat}
theorem last_seen (h : seenG K V m g i) (hl : (psG lv K V m r i g).length = q + 1) (hx : (psG lv K V m r i g)[q]? = some x) : x = r := by
  obtain ⟨q', h1, h2⟩ := psG_last_seen (lv := lv) (r := r) h
  obtain rfl : q' = q := by omega
  rw [hx] at h2
  exact Option.some.inj h2
theorem nil_unseen (hl : psG lv K V m r i g = []) : ¬ seenG K V m g i := fun h => by
  obtain ⟨q', h1, h2⟩ := psG_last_seen (lv := lv) (r := r) h
  rw [hl] at h1
  simp at h1
theorem nxt_seen (h : seenG K V m g i) : nxt lv K V m r i g = psG lv K V m r i g := by simp [nxt, h]
theorem nxt_unseen (h : ¬ seenG K V m g i) : nxt lv K V m r i g = psG lv K V m r i g ++ [r] := by simp [nxt, h]
end

/-- A label that lies in a block of its own. -/
def Pc (w : World) (P : Nat) (k v : ByteArray) : Prop := w.cell? ⟨P, 0, none⟩ = some (.string k) ∧ w.cell? ⟨P, 1, none⟩ = some (.string v)
theorem Pc.new (w : World) (k v : ByteArray) : Pc (w.alloc (.cells #[.string k, .string v] 36)) w.heap.size k v := by
  have hh := (MapKept.heap_alloc w (.cells #[.string k, .string v] 36)).1
  constructor
  · unfold World.cell?; simp only [hh]; rfl
  · unfold World.cell?; simp only [hh]; rfl
theorem Pc.grown {w w' : World} {P : Nat} {k v : ByteArray} {row : Option Nat} (h : Pc w P k v) (hg : w.grownBy w' row) (hne : row ≠ some P) : Pc w' P k v :=
  ⟨cell_same h.1 (hg.block P (lt_of_cell h.1) (Ne.symm hne)), cell_same h.2 (hg.block P (lt_of_cell h.2) (Ne.symm hne))⟩

/-- A round begins: the place is laid, the role's map is made. -/
theorem round_begin {W w : World} {Q n r : Nat} {kv pv : Value} {ps : G → List Nat} {lv : Nat → ByteArray → Option ByteArray} (hG : GS W w Q kv pv ps) (hF : FX w W.heap.size n r r lv) (K V : Nat → ByteArray) :
    GS W ((w.setCell ⟨W.heap.size + 1, r, none⟩ (.int .i64 (r : Int))).alloc (.map #[] 0)) Q kv pv ps ∧ FXM ((w.setCell ⟨W.heap.size + 1, r, none⟩ (.int .i64 (r : Int))).alloc (.map #[] 0)) W.heap.size n r w.heap.size lv ∧
    Rm ((w.setCell ⟨W.heap.size + 1, r, none⟩ (.int .i64 (r : Int))).alloc (.map #[] 0)) w.heap.size K V 0 := by
  obtain ⟨tg, val, fk, fl, ks, pr, hG⟩ := hG
  obtain ⟨mb, hF⟩ := hF
  have g1 := hG.away (grown_set w ⟨W.heap.size + 1, r, none⟩ (.int .i64 (r : Int))) (by show _ ≤ W.heap.size + 1; omega) (by show W.heap.size + 1 ≠ _; omega) (by show W.heap.size + 1 ≠ _; omega) (.inl (by show W.heap.size + 1 < _; omega))
  have e : (w.setCell ⟨W.heap.size + 1, r, none⟩ (.int .i64 (r : Int))).heap.size = w.heap.size := by simp
  refine ⟨⟨tg, val, fk, fl, ks, pr, g1.fresh (grown_alloc _ _)⟩, ⟨hG.sz, mb, hF.setEvery.grown (grown_alloc _ _) (Okr.none _ _), hF.lt⟩, ?_⟩
  have := MapIs.made (w.setCell ⟨W.heap.size + 1, r, none⟩ (.int .i64 (r : Int))) 9
  rw [e] at this
  exact ⟨_, _, this, fun s => rfl⟩

/-- A label is laid into the role's map. -/
theorem round_store {W w w' : World} {Q n r M : Nat} {kv pv : Value} {ps : G → List Nat} {lv : Nat → ByteArray → Option ByteArray} {K V : Nat → ByteArray} {i : Nat} (hG : GS W w Q kv pv ps) (hF : FXM w W.heap.size n r M lv) (hR : Rm w M K V i) (hg : w.grownBy w' (some M)) :
    GS W w' Q kv pv ps ∧ FXM w' W.heap.size n r M lv := by
  obtain ⟨tg, val, fk, fl, ks, pr, hG⟩ := hG
  obtain ⟨hM, mb, hF, hlt⟩ := hF
  obtain ⟨c, f, hm, _⟩ := hR
  exact ⟨⟨tg, val, fk, fl, ks, pr, hG.away hg (by omega) (by omega) (by omega) (.inr hm.block)⟩, ⟨hM, mb, hF.away hg hM hlt, hlt⟩⟩

/-- The role's map is laid into its place. -/
theorem round_push {W w : World} {Q n r M : Nat} {kv pv : Value} {ps : G → List Nat} {lv : Nat → ByteArray → Option ByteArray} {K V : Nat → ByteArray} {m : Nat} (hG : GS W w Q kv pv ps) (hF : FXM w W.heap.size n r M lv) (hR : Rm w M K V m) (hlv : lv r = lastV K V m) :
    GS W (w.setCell ⟨W.heap.size, r, none⟩ (.map (some M))) Q kv pv ps ∧ FXR (w.setCell ⟨W.heap.size, r, none⟩ (.map (some M))) W.heap.size n r M lv := by
  obtain ⟨tg, val, fk, fl, ks, pr, hG⟩ := hG
  obtain ⟨hM, mb, hF, hlt⟩ := hF
  obtain ⟨c, f, hm, hf⟩ := hR
  refine ⟨⟨tg, val, fk, fl, ks, pr, hG.away (grown_set w _ _) (by show _ ≤ W.heap.size; omega) (by show W.heap.size ≠ _; omega) (by show W.heap.size ≠ _; omega) (.inl (by show W.heap.size < _; omega))⟩, ⟨_, hF.push hM hm (fun s => by rw [hlv]; exact hf s), if_pos rfl⟩⟩

theorem Rm.drew {w : World} {M : Nat} {K V : Nat → ByteArray} {i : Nat} (h : Rm w M K V i) : Rm w.drew M K V i := by
  obtain ⟨c, f, hm, hf⟩ := h
  exact ⟨c, f, hm.same rfl, hf⟩
theorem GS.fresh {W w w' : World} {Q : Nat} {kv pv : Value} {ps : G → List Nat} (h : GS W w Q kv pv ps) (hg : w.grownBy w' none) : GS W w' Q kv pv ps := by
  obtain ⟨_, _, _, _, _, _, h⟩ := h
  exact ⟨_, _, _, _, _, _, h.fresh hg⟩
theorem FXM.drew {w : World} {B n r M : Nat} {lv : Nat → ByteArray → Option ByteArray} (h : FXM w B n r M lv) : FXM w.drew B n r M lv := by
  obtain ⟨h1, mb, h2, h3⟩ := h
  exact ⟨h1, mb, h2.grown (grown_drew _) (Okr.none _ _), h3⟩
/-- What zzBuild leaves: an index, and all below as it was. -/
def BuildPost (W : World) (n : Nat) (lv : Nat → ByteArray → Option ByteArray) (t : Int) (e : Ending) (w' : World) : Prop :=
  ∃ N ms es mb fk fl, e = .returned (.pointer (some ⟨N + 3, 0, none⟩)) ∧ W.heap.size ≤ N ∧ Idx w' N n ms es mb fk fl lv t 0 (fun _ => none) ∧ Below W.heap.size W w'
theorem sumL_mono (L : Nat → Nat) {a b : Nat} (h : a ≤ b) : sumL L a ≤ sumL L b := by
  induction b with
  | zero => obtain rfl : a = 0 := by omega
            exact Nat.le_refl _
  | succ b ih =>
    by_cases e : a = b + 1
    · subst e; exact Nat.le_refl _
    · have := ih (by omega)
      show sumL L a ≤ sumL L b + L b
      omega

set_option maxRecDepth 20000 in
set_option maxHeartbeats 3200000 in
theorem build8 (a : Option Addr) (n cap : Nat) (R : Nat → Option Addr) (L C : Nat → Nat) (K V : Nat → Nat → ByteArray) (tests : Int) (W : World) (h : LabIn W a n R L C K V) (hn : n ≤ 43690) (hs : 32 * sumL L n ≤ 1048576) :
    Calls Try.prog 8 #[.slice a n cap, .int .i64 tests] W fun e w' => BuildPost W n (fun j => lastV (K j) (V j) (L j)) tests e w' := by
  have inst : DecidableEq Value := fun a b => Classical.propDecidable (a = b)
  have hmk1 := run_make_row' (P := Try.prog) 38 43 (.map none) 8 Try.underlying38 info43 rfl .i64 .i64 n (by omega) (by omega)
  have hmk2 := run_make_row' (P := Try.prog) 39 3 (.int .i64 0) 8 Try.underlying39 infoI rfl .i64 .i64 n (by omega) (by omega)
  have hmm := @run_makeMap Try.prog
  have hs36 := cells36
  have HL : Hid (LabIn W a n R L C K V) := h
  have HS : Hid (32 * sumL L n ≤ 1048576) := hs
  clear h hs
  go_enter Try.func8, Try.ntmps8
  go_wp2_with fail
  go_loopw [9, 10, 11, 12, 13, 14, 15, 16, 17, 18, 19, 20, 21] (fun s9 s10 s11 s12 s13 s14 s15 s16 s17 s18 s19 s20 s21 wr => ∃ r : Nat, r ≤ n ∧ s11 = .int .i64 (r : Int) ∧ Hid (GS W wr (4 * sumL L r) s9 s10 (fun g => pls (fun j => onB g (lastV (K j) (V j) (L j) g.1)) r)) ∧ Hid (FX wr W.heap.size n r r (fun j => lastV (K j) (V j) (L j))))
    (fun _ _ s11 _ _ _ _ _ _ _ _ _ _ _ => n - (intOf s11).toNat)
  case atStart =>
    refine ⟨0, Nat.zero_le _, rfl, ?_, ?_⟩
    · exact ⟨_, _, _, _, _, _, (start8 W n (fun j => lastV (K j) (V j) (L j)) (K 0) (V 0) 0 _ rfl).1⟩
    · exact ⟨_, (start8 W n (fun j => lastV (K j) (V j) (L j)) (K 0) (V 0) 0 _ rfl).2⟩
  case round =>
    obtain ⟨r, hr, rfl, HG, HF⟩ := hrel
    by_cases hlt : r < n
    · obtain ⟨x, rfl, e0⟩ := HL.out.cs r hlt
      have hc1 := HF.out.choose_spec.erow.cell hlt
      have hf1 := HF.out.choose_spec.erow.frozen r
      have HB := round_begin HG.out HF.out (K r) (V r)
      have HG1 : Hid (GS W ((wr.setCell ⟨W.heap.size + 1, r, none⟩ (.int .i64 (r : Int))).alloc (.map #[] 0)) (4 * sumL L r) u9 u10 (fun g => pls (fun j => onB g (lastV (K j) (V j) (L j) g.1)) r)) := HB.1
      have HF1 : Hid (FXM ((wr.setCell ⟨W.heap.size + 1, r, none⟩ (.int .i64 (r : Int))).alloc (.map #[] 0)) W.heap.size n r wr.heap.size (fun j => lastV (K j) (V j) (L j))) := HB.2.1
      have HR1 : Hid (Rm ((wr.setCell ⟨W.heap.size + 1, r, none⟩ (.int .i64 (r : Int))).alloc (.map #[] 0)) wr.heap.size (K r) (V r) 0) := HB.2.2
      clear HB HG HF
      have hLr : sumL L (r + 1) ≤ sumL L n := sumL_mono L (by omega)
      have hL : L r ≤ 32768 := by
        have := HS.out
        have e : sumL L (r + 1) = sumL L r + L r := rfl
        omega
      go_wp2_with fail
      generalize wr.heap.size = M at HF1 HR1 ⊢
      generalize (wr.setCell ⟨W.heap.size + 1, r, none⟩ (.int .i64 (r : Int))).alloc (.map #[] 0) = wa at HG1 HF1 HR1 ⊢
      clear hc1 hf1
      go_loopw [13] (fun s13 wb => ∃ i : Nat, i ≤ L r ∧ s13 = .int .i64 (i : Int) ∧ Hid (GS W wb (4 * sumL L r) u9 u10 (fun g => pls (fun j => onB g (lastV (K j) (V j) (L j) g.1)) r)) ∧ Hid (FXM wb W.heap.size n r M (fun j => lastV (K j) (V j) (L j))) ∧ Hid (Rm wb M (K r) (V r) i)) (fun s13 _ => L r - (intOf s13).toNat)
      case atStart => exact ⟨0, Nat.zero_le _, rfl, HG1, HF1, HR1⟩
      case round =>
        clear HG1 HF1 HR1
        obtain ⟨i, hi, rfl, HG2, HF2, HR2⟩ := hrel
        have hc0 : wr.cell? (x.add r) = some (.slice (R r) (L r) (C r)) := by rw [HG2.out.bl.cell (lt_of_cell e0)]; exact e0
        by_cases hil : i < L r
        · obtain ⟨y, hy, e1, e2⟩ := (HL.out.role r hlt).cs i hil
          have hk := ((HL.out.role r hlt).sz i hil).1
          have hc2 : wr.cell? (y.add (i * 2)) = some (.string (K r i)) := by rw [HG2.out.bl.cell (lt_of_cell e1)]; exact e1
          have hc3 : wr.cell? ⟨(y.add (i * 2)).block, (y.add (i * 2)).off + 1, none⟩ = some (.string (V r i)) := by rw [HG2.out.bl.cell (lt_of_cell e2)]; exact e2
          rw [hy] at hc0
          obtain ⟨w2, hrun, hR3, hg3⟩ := HR2.out.drew.store (by omega) hk
          obtain ⟨hG3, hF3⟩ := round_store (HG2.out.fresh (grown_drew _)) (HF2.out.drew) HR2.out.drew hg3
          have hd0 : w2.cell? (x.add r) = some (.slice (some y) (L r) (C r)) := by rw [hG3.bl.cell (lt_of_cell e0), e0, hy]
          have hd2 : w2.cell? (y.add (i * 2)) = some (.string (K r i)) := by rw [hG3.bl.cell (lt_of_cell e1)]; exact e1
          have hd3 : w2.cell? ⟨(y.add (i * 2)).block, (y.add (i * 2)).off + 1, none⟩ = some (.string (V r i)) := by rw [hG3.bl.cell (lt_of_cell e2)]; exact e2
          have HG3 : Hid (GS W w2 (4 * sumL L r) u9 u10 (fun g => pls (fun j => onB g (lastV (K j) (V j) (L j) g.1)) r)) := hG3
          have HF3 : Hid (FXM w2 W.heap.size n r M (fun j => lastV (K j) (V j) (L j))) := hF3
          have HR3 : Hid (Rm w2 M (K r) (V r) (i + 1)) := hR3
          clear hG3 hF3 hR3 hg3 HG2 HF2 HR2 e0 e1 e2
          have i0 : (0 : Int) ≤ (r : Int) := by omega
          have i1 : (r : Int) < (n : Int) := by omega
          have i2 : (0 : Int) ≤ (i : Int) := by omega
          have i3 : (i : Int) < (L r : Int) := by omega
          go_wp2_with fail
          go_region_held3 (fun w' => w'.cell? (x.add r) = some (.slice (some y) (L r) (C r)) ∧ w'.cell? (y.add (i * 2)) = some (.string (K r i)) ∧ w'.cell? ⟨(y.add (i * 2)).block, (y.add (i * 2)).off + 1, none⟩ = some (.string (V r i))) (go_keep) (fail)
          go_wp2_with fail
          go_roundw
          case rel => exact ⟨i + 1, by omega, by go_num, HG3, HF3, HR3⟩
          case measure => simp [intOf]; omega
        · obtain rfl : i = L r := by omega
          have HP := round_push HG2.out HF2.out HR2.out rfl
          have hm1 : wr.cell? ⟨W.heap.size, r, none⟩ = some (.map none) := by
            obtain ⟨_, mb0, hf0, _⟩ := HF2.out
            have := hf0.mrow.cell hlt
            simpa using this
          have hm2 : wr.frozen? ⟨W.heap.size, r, none⟩ = false := by
            obtain ⟨_, mb0, hf0, _⟩ := HF2.out
            exact hf0.mrow.frozen r
          have HG3 : Hid (GS W (wr.setCell ⟨W.heap.size, r, none⟩ (.map (some M))) (4 * sumL L r) u9 u10 (psG (fun j => lastV (K j) (V j) (L j)) (K r) (V r) (L r) r 0)) := by rw [psG_zero]; exact HP.1
          have HF3 : Hid (FXR (wr.setCell ⟨W.heap.size, r, none⟩ (.map (some M))) W.heap.size n r M (fun j => lastV (K j) (V j) (L j))) := HP.2
          clear HP HG2 HF2 HR2
          go_wp2_with fail
          generalize wr.setCell ⟨W.heap.size, r, none⟩ (.map (some M)) = wd at HG3 HF3 ⊢
          clear hm1 hm2 hc0
          go_loopw [9, 10, 14, 15, 16, 17, 18, 19, 20, 21] (fun s9 s10 s14 s15 s16 s17 s18 s19 s20 s21 wb => ∃ i : Nat, i ≤ L r ∧ s14 = .int .i64 (i : Int) ∧ Hid (GS W wb (4 * (sumL L r + i)) s9 s10 (psG (fun j => lastV (K j) (V j) (L j)) (K r) (V r) (L r) r i)) ∧ Hid (FXR wb W.heap.size n r M (fun j => lastV (K j) (V j) (L j)))) (fun _ _ s14 _ _ _ _ _ _ _ _ => L r - (intOf s14).toNat)
          case atStart => exact ⟨0, Nat.zero_le _, rfl, HG3, HF3⟩
          case round =>
            clear HG3 HF3
            obtain ⟨i, hi, rfl, HG4, HF4⟩ := hrel
            have hc0 : wr.cell? (x.add r) = some (.slice (R r) (L r) (C r)) := by rw [HG4.out.bl.cell (lt_of_cell e0)]; exact e0
            by_cases hil : i < L r
            · obtain ⟨y, hy, e1, e2⟩ := (HL.out.role r hlt).cs i hil
              obtain ⟨hk, hv⟩ := (HL.out.role r hlt).sz i hil
              have hc2 : wr.cell? (y.add (i * 2)) = some (.string (K r i)) := by rw [HG4.out.bl.cell (lt_of_cell e1)]; exact e1
              have hc3 : wr.cell? ⟨(y.add (i * 2)).block, (y.add (i * 2)).off + 1, none⟩ = some (.string (V r i)) := by rw [HG4.out.bl.cell (lt_of_cell e2)]; exact e2
              rw [hy] at hc0
              clear hy
              have i0 : (0 : Int) ≤ (r : Int) := by omega
              have i1 : (r : Int) < (n : Int) := by omega
              have i2 : (0 : Int) ≤ (i : Int) := by omega
              have i3 : (i : Int) < (L r : Int) := by omega
              obtain ⟨u, hu⟩ : ∃ u, lastV (K r) (V r) (L r) (K r i) = some u := by
                cases hlu : lastV (K r) (V r) (L r) (K r i) with
                | none => exact absurd rfl (lastV_none (K r) (V r) (K r i) (L r) hlu i hil)
                | some u => exact ⟨u, rfl⟩
              have hlook := HF4.out.look hk hu
              by_cases huv : u = V r i
              · subst huv
                obtain ⟨tg, val, fk, fl, ks, pr, hG⟩ := HG4.out
                clear HG4
                have hlk : (Instr.lookup 40 (.map (some (W.heap.size + 1 + 1))) (.string (K r i)) true).run Try.prog wr = .ok (.tuple #[val (K r i, none), .bool (fk (.string (K r i))).isSome]) wr := by
                  obtain ⟨q, c, _, hm⟩ := hG.key
                  rw [← hG.kval]
                  exact hm.look_ok K9 Try.underlying40 (zero39 _) (key9 hk)
                have hQ : 4 * (sumL L r + i) ≤ 200000 := by
                  have := HS.out
                  have e : sumL L (r + 1) = sumL L r + L r := rfl
                  omega
                obtain ⟨sn, hsn⟩ : ∃ b, (fk (.string (K r i))).isSome = b := ⟨_, rfl⟩
                rw [hsn] at hlk
                have HN : Hid ((fk (.string (K r i))).isSome = sn) := hsn
                clear hsn
                have HG : Hid (Gs W wr (4 * (sumL L r + i)) u9 u10 (psG (fun j => lastV (K j) (V j) (L j)) (K r) (V r) (L r) r i) tg val fk fl ks pr) := hG
                clear hG
                have HQ : Hid (4 * (sumL L r + i) + 4 = 4 * (sumL L r + (i + 1))) := by show _ = _; omega
                have HLast : Hid (lastV (K r) (V r) (L r) (K r i) = some (V r i)) := hu
                clear hu
                generalize 4 * (sumL L r + i) = Q at HG hQ HQ
                go_upto_if 111 with fail
                go_cut [9] (fun s9 wx => ∃ ks', Hid (Gs W wx (Q + 1) s9 u10 (psG (fun j => lastV (K j) (V j) (L j)) (K r) (V r) (L r) r i) tg val fk fl ks' pr) ∧ Hid (K r i ∈ ks') ∧ Hid (FXR wx W.heap.size n r M (fun j => lastV (K j) (V j) (L j))))
                case first =>
                  cases sn
                  · obtain ⟨kv', w', hrun, hG', hF'⟩ := HG.out.addKey (K r i) hk (by omega)
                    have HG' : Hid (Gs W w' (Q + 1) kv' u10 (psG (fun j => lastV (K j) (V j) (L j)) (K r) (V r) (L r) r i) tg val fk fl (ks ++ [K r i]) pr) := hG'
                    have HF' : Hid (FXR w' W.heap.size n r M (fun j => lastV (K j) (V j) (L j))) := HF4.out.by hF'
                    clear hG' hF'
                    go_wp2_with (at_builtin; refine wpList_append_run (by rfl) _ _ _ (by rfl) _ _ _ _ (by rfl) (by rfl) hrun ?_)
                    go_meet
                    case rel => exact ⟨_, HG', (show _ ∈ _ by simp), HF'⟩
                  · go_wp2_with fail
                    go_meet
                    case rel => exact ⟨ks, HG.out.more (by omega), HG.out.kin _ (fun e => by have := HN.out; rw [e] at this; simp at this), HF4⟩
                case rest =>
                  obtain ⟨ks', HG1, HK1, HF1⟩ := hcut
                  clear HG HF4 hlk hlook HN
                  obtain ⟨v17, HV⟩ : ∃ v, Hid (val (K r i, none) = v) := ⟨_, (show _ = _ from rfl)⟩
                  rw [HV.out]
                  have HOwn : Hid (wc.ownsRow (W.heap.size + 4) 3 1 v17 (psG (fun j => lastV (K j) (V j) (L j)) (K r) (V r) (L r) r i (K r i, none)).length (ints (psG (fun j => lastV (K j) (V j) (L j)) (K r) (V r) (L r) r i (K r i, none)))) := by
                    rw [← HV.out]
                    exact HG1.out.rw.own _
                  go_upto_region 26 with fail
                  go_cut [128] (fun b wx => ∃ b' : Bool, b = .bool b' ∧ Hid (b' = true ↔ ¬ seenG (K r) (V r) (L r) (K r i, none) i) ∧ wx = wc)
                  case first =>
                    clear HV
                    rcases last_cases HOwn.out with ⟨hnil, ao, cap', hv0⟩ | ⟨q, z, gb, cap', hq, hz, hv0, hcz⟩
                    · have HU : Hid (¬ seenG (K r) (V r) (L r) (K r i, none) i) := nil_unseen hnil
                      clear hnil HOwn
                      subst hv0
                      go_wp2_with fail
                      go_meet
                      case rel => exact ⟨true, rfl, ⟨fun _ => HU.out, fun _ => rfl⟩, rfl⟩
                    · have hq1 : q ≤ 1000000 := by
                        have := psG_len (lv := fun j => lastV (K j) (V j) (L j)) (K := K r) (V := V r) (m := L r) (r := r) (i := i) (K r i, none)
                        omega
                      have hw : IntKind.i64.wrap (((q + 1 : Nat) : Int) - 1) = (q : Int) := by rw [IntWalk.i64_in _ (by omega)]; omega
                      clear HOwn
                      subst hv0
                      by_cases hsn : seenG (K r) (V r) (L r) (K r i, none) i
                      · have hzr := last_seen hsn hq hz
                        rw [hzr] at hcz
                        have HU : Hid (seenG (K r) (V r) (L r) (K r i, none) i) := hsn
                        clear hsn hq hz hzr
                        go_wp2_with fail
                        go_meet
                        case rel => exact ⟨false, rfl, ⟨fun e => by simp at e, fun h => absurd HU.out h⟩, rfl⟩
                      · have hzr := psG_last_unseen hsn hz
                        have HU : Hid (¬ seenG (K r) (V r) (L r) (K r i, none) i) := hsn
                        clear hsn hq hz
                        go_wp2_with fail
                        go_meet
                        case rel => exact ⟨_, rfl, ⟨fun _ => HU.out, fun _ => by have e : ¬ ((z : Int) = (r : Int)) := by omega
                                                                                 simp; omega⟩, rfl⟩
                  case rest =>
                    obtain ⟨b', rfl, HB', rfl⟩ := hcut
                    clear HOwn
                    go_upto_if 128 with fail
                    go_cut [17] (fun s17 wx => ∃ tg' val' fk', Hid (Gs W wx (Q + 2) u9 u10 (updG (psG (fun j => lastV (K j) (V j) (L j)) (K r) (V r) (L r) r i) (K r i, none) (nxt (fun j => lastV (K j) (V j) (L j)) (K r) (V r) (L r) r i (K r i, none))) tg' val' fk' fl ks' pr) ∧ Hid (FXR wx W.heap.size n r M (fun j => lastV (K j) (V j) (L j))))
                    case first =>
                      cases b'
                      · have HU : Hid (seenG (K r) (V r) (L r) (K r i, none) i) := by
                          exact Classical.byContradiction (fun h => Bool.noConfusion (HB'.out.2 h))
                        go_wp2_with fail
                        go_meet
                        case rel =>
                          refine ⟨tg, val, fk, ?_, HF1⟩
                          rw [nxt_seen HU.out, updG_id]
                          exact HG1.out.more (by omega)
                      · have HU : Hid (¬ seenG (K r) (V r) (L r) (K r i, none) i) := HB'.out.1 rfl
                        obtain ⟨v', w1, w2, tg', hrun1, hrun2, hG2, hF2⟩ := HG1.out.putKey (K r i) r hk (by omega) (by have := psG_len (lv := fun j => lastV (K j) (V j) (L j)) (K := K r) (V := V r) (m := L r) (r := r) (i := i) (K r i, none); omega) HK1.out
                        rw [HV.out] at hrun1
                        have hrun2' : (Instr.mapUpdate 40 (.map (some (W.heap.size + 1 + 1))) (.string (K r i)) v').run Try.prog w1 = .ok () w2 := hrun2
                        have HG2 : Hid (Gs W w2 (Q + 2) u9 u10 (updG (psG (fun j => lastV (K j) (V j) (L j)) (K r) (V r) (L r) r i) (K r i, none) (nxt (fun j => lastV (K j) (V j) (L j)) (K r) (V r) (L r) r i (K r i, none))) tg' (updG val (K r i, none) v') (upd fk (.string (K r i)) v') fl ks' pr) := by rw [nxt_unseen HU.out]; exact hG2
                        have HF2 : Hid (FXR w2 W.heap.size n r M (fun j => lastV (K j) (V j) (L j))) := HF1.out.by hF2
                        clear hG2 hF2 hrun2
                        go_wp2_with (at_builtin; refine wpList_append_run (by rfl) _ _ _ (by rfl) _ _ _ _ (by rfl) (by rfl) hrun1 ?_)
                        go_meet
                        case rel => exact ⟨_, _, _, HG2, HF2⟩
                    case rest =>
                      obtain ⟨tg2, val2, fk2, HG2, HF2⟩ := hcut
                      clear HG1 HF1 HV HB'
                      obtain ⟨sn2, HN2⟩ : ∃ b, Hid ((fl (.agg #[.string (K r i), .string (V r i)])).isSome = b) := ⟨_, (show _ = _ from rfl)⟩
                      have hlk2 : (Instr.lookup 41 (.map (some (W.heap.size + 1 + 1 + 1))) (.agg #[.string (K r i), .string (V r i)]) true).run Try.prog (wc.alloc (.cells #[.string (K r i), .string (V r i)] 36)) = .ok (.tuple #[val2 (K r i, some (V r i)), .bool sn2]) (wc.alloc (.cells #[.string (K r i), .string (V r i)] 36)) := by
                        have hGp := HG2.out.fresh (grown_alloc wc (.cells #[.string (K r i), .string (V r i)] 36))
                        obtain ⟨q, c, _, hm⟩ := hGp.lab
                        rw [← hGp.lval, ← HN2.out]
                        exact hm.look_ok K36 Try.underlying41 (zero39 _) (key36 hk hv)
                      have HGp : Hid (Gs W (wc.alloc (.cells #[.string (K r i), .string (V r i)] 36)) (Q + 2) u9 u10 (updG (psG (fun j => lastV (K j) (V j) (L j)) (K r) (V r) (L r) r i) (K r i, none) (nxt (fun j => lastV (K j) (V j) (L j)) (K r) (V r) (L r) r i (K r i, none))) tg2 val2 fk2 fl ks' pr) := HG2.out.fresh (grown_alloc _ _)
                      have HFp : Hid (FXR (wc.alloc (.cells #[.string (K r i), .string (V r i)] 36)) W.heap.size n r M (fun j => lastV (K j) (V j) (L j))) := HF2.out.grown (grown_alloc _ _) (Okr.none _ _)
                      have HPc : Hid (Pc (wc.alloc (.cells #[.string (K r i), .string (V r i)] 36)) wc.heap.size (K r i) (V r i)) := Pc.new _ _ _
                      have HP1 : Hid (u10.ownBlock ≠ some wc.heap.size) := fun e => by have := (HG2.out.pairs.lt _ e).2; omega
                      have HP2 : Hid ((val2 (K r i, some (V r i))).ownBlock ≠ some wc.heap.size ∧ W.heap.size + 4 ≤ wc.heap.size) := ⟨fun e => by have := ((HG2.out.rw.own _).lt _ e).2; omega, HG2.out.sz⟩
                      clear HG2 HF2
                      go_upto_if 145 with fail
                      generalize wc.alloc (.cells #[.string (K r i), .string (V r i)] 36) = wp at HGp HFp HPc hlk2 ⊢
                      generalize wc.heap.size = P at HPc HP1 HP2 ⊢
                      clear hlk2
                      go_cut [10] (fun s10 wx => ∃ pr', Hid (Gs W wx (Q + 3) u9 s10 (updG (psG (fun j => lastV (K j) (V j) (L j)) (K r) (V r) (L r) r i) (K r i, none) (nxt (fun j => lastV (K j) (V j) (L j)) (K r) (V r) (L r) r i (K r i, none))) tg2 val2 fk2 fl ks' pr') ∧ Hid ((K r i, V r i) ∈ pr') ∧ Hid (FXR wx W.heap.size n r M (fun j => lastV (K j) (V j) (L j))) ∧ Hid (Pc wx P (K r i) (V r i)))
                      case first =>
                        cases sn2
                        · obtain ⟨pv', w', hrun, hG', hF', hgr⟩ := HGp.out.addPair (K r i) (V r i) hk hv (by omega)
                          have HG' : Hid (Gs W w' (Q + 3) u9 pv' (updG (psG (fun j => lastV (K j) (V j) (L j)) (K r) (V r) (L r) r i) (K r i, none) (nxt (fun j => lastV (K j) (V j) (L j)) (K r) (V r) (L r) r i (K r i, none))) tg2 val2 fk2 fl ks' (pr ++ [(K r i, V r i)])) := hG'
                          have HF' : Hid (FXR w' W.heap.size n r M (fun j => lastV (K j) (V j) (L j))) := HFp.out.by hF'
                          have HPc' : Hid (Pc w' P (K r i) (V r i)) := HPc.out.grown hgr HP1.out
                          obtain ⟨hp1, hp2⟩ := HPc.out
                          clear hG' hF' hgr
                          go_wp2_with (at_builtin; refine wpList_append_run (by rfl) _ _ _ (by rfl) _ _ _ _ (by rfl) (by rfl) hrun ?_)
                          go_meet
                          case rel => exact ⟨_, HG', (show _ ∈ _ by simp), HF', HPc'⟩
                        · go_wp2_with fail
                          go_meet
                          case rel => exact ⟨pr, HGp.out.more (by omega), HGp.out.lin _ _ (fun e => by have := HN2.out; rw [e] at this; simp at this), HFp, HPc⟩
                      case rest =>
                        obtain ⟨pr', HG3, HK3, HF3, HPc3⟩ := hcut
                        clear HGp HFp HPc HN2
                        obtain ⟨v20, HV⟩ : ∃ v, Hid (val2 (K r i, some (V r i)) = v) := ⟨_, (show _ = _ from rfl)⟩
                        rw [HV.out] at HP2 ⊢
                        have HOwn : Hid (wc.ownsRow (W.heap.size + 4) 3 1 v20 (psG (fun j => lastV (K j) (V j) (L j)) (K r) (V r) (L r) r i (K r i, some (V r i))).length (ints (psG (fun j => lastV (K j) (V j) (L j)) (K r) (V r) (L r) r i (K r i, some (V r i))))) := by
                          have := HG3.out.rw.own (K r i, some (V r i))
                          rw [HV.out, updG_other _ _ (by simp)] at this
                          exact this
                        go_upto_region 32 with fail
                        go_cut [162] (fun b wx => ∃ b' : Bool, b = .bool b' ∧ Hid (b' = true ↔ ¬ seenG (K r) (V r) (L r) (K r i, some (V r i)) i) ∧ wx = wc)
                        case first =>
                          clear HV HP2
                          rcases last_cases HOwn.out with ⟨hnil, ao, cap', hv0⟩ | ⟨q, z, gb, cap', hq, hz, hv0, hcz⟩
                          · have HU : Hid (¬ seenG (K r) (V r) (L r) (K r i, some (V r i)) i) := nil_unseen hnil
                            clear hnil HOwn
                            subst hv0
                            go_wp2_with fail
                            go_meet
                            case rel => exact ⟨true, rfl, ⟨fun _ => HU.out, fun _ => rfl⟩, rfl⟩
                          · have hq1 : q ≤ 1000000 := by
                              have := psG_len (lv := fun j => lastV (K j) (V j) (L j)) (K := K r) (V := V r) (m := L r) (r := r) (i := i) (K r i, some (V r i))
                              omega
                            have hw : IntKind.i64.wrap (((q + 1 : Nat) : Int) - 1) = (q : Int) := by rw [IntWalk.i64_in _ (by omega)]; omega
                            clear HOwn
                            subst hv0
                            by_cases hsn : seenG (K r) (V r) (L r) (K r i, some (V r i)) i
                            · have hzr := last_seen hsn hq hz
                              rw [hzr] at hcz
                              have HU : Hid (seenG (K r) (V r) (L r) (K r i, some (V r i)) i) := hsn
                              clear hsn hq hz hzr
                              go_wp2_with fail
                              go_meet
                              case rel => exact ⟨false, rfl, ⟨fun e => by simp at e, fun h => absurd HU.out h⟩, rfl⟩
                            · have hzr := psG_last_unseen hsn hz
                              have HU : Hid (¬ seenG (K r) (V r) (L r) (K r i, some (V r i)) i) := hsn
                              clear hsn hq hz
                              go_wp2_with fail
                              go_meet
                              case rel => exact ⟨_, rfl, ⟨fun _ => HU.out, fun _ => by have e : ¬ ((z : Int) = (r : Int)) := by omega
                                                                                       simp; omega⟩, rfl⟩
                        case rest =>
                          obtain ⟨b', rfl, HB', rfl⟩ := hcut
                          clear HOwn
                          cases b'
                          · have HU : Hid (seenG (K r) (V r) (L r) (K r i, some (V r i)) i) := by
                              exact Classical.byContradiction (fun h => Bool.noConfusion (HB'.out.2 h))
                            have HG4 : Hid (GS W wc (4 * (sumL L r + (i + 1))) u9 u10 (psG (fun j => lastV (K j) (V j) (L j)) (K r) (V r) (L r) r (i + 1))) := by
                              rw [← psG_step HLast.out, nxt_seen HU.out, ← HQ.out]
                              refine ⟨_, _, _, _, _, _, (?_ : Gs W _ _ _ _ _ tg2 val2 fk2 fl ks' pr')⟩
                              have e : psG (fun j => lastV (K j) (V j) (L j)) (K r) (V r) (L r) r i (K r i, some (V r i)) = updG (psG (fun j => lastV (K j) (V j) (L j)) (K r) (V r) (L r) r i) (K r i, none) (nxt (fun j => lastV (K j) (V j) (L j)) (K r) (V r) (L r) r i (K r i, none)) (K r i, some (V r i)) := by rw [updG_other _ _ (by simp)]
                              rw [e, updG_id]
                              exact HG3.out.more (by omega)
                            clear HG3 HPc3 HV HB' HK3
                            go_wp2_with fail
                            go_roundw
                            case rel => exact ⟨i + 1, by omega, by go_num, HG4, HF3⟩
                            case measure => simp [intOf]; omega
                          · have HU : Hid (¬ seenG (K r) (V r) (L r) (K r i, some (V r i)) i) := HB'.out.1 rfl
                            have e : updG (psG (fun j => lastV (K j) (V j) (L j)) (K r) (V r) (L r) r i) (K r i, none) (nxt (fun j => lastV (K j) (V j) (L j)) (K r) (V r) (L r) r i (K r i, none)) (K r i, some (V r i)) = psG (fun j => lastV (K j) (V j) (L j)) (K r) (V r) (L r) r i (K r i, some (V r i)) := by rw [updG_other _ _ (by simp)]
                            obtain ⟨v', w1, w2, tg', hrun1, hrun2, hG2, hF2, hga, hgb⟩ := (HG3.out.fresh (grown_drew _)).putLab (K r i) (V r i) r hk hv (by omega) (by rw [e]; have := psG_len (lv := fun j => lastV (K j) (V j) (L j)) (K := K r) (V := V r) (m := L r) (r := r) (i := i) (K r i, some (V r i)); omega) HK3.out
                            rw [HV.out] at hrun1 hga
                            have hrun2' : (Instr.mapUpdate 41 (.map (some (W.heap.size + 1 + 1 + 1))) (.agg #[.string (K r i), .string (V r i)]) v').run Try.prog w1 = .ok () w2 := hrun2
                            have HG4 : Hid (GS W w2 (4 * (sumL L r + (i + 1))) u9 u10 (psG (fun j => lastV (K j) (V j) (L j)) (K r) (V r) (L r) r (i + 1))) := by
                              rw [← psG_step HLast.out, nxt_unseen HU.out, ← HQ.out, ← e]
                              exact ⟨_, _, _, _, _, _, hG2⟩
                            have HF4 : Hid (FXR w2 W.heap.size n r M (fun j => lastV (K j) (V j) (L j))) := (HF3.out.grown (grown_drew _) (Okr.none _ _)).by hF2
                            have hPa := (HPc3.out.grown (grown_drew _) (by simp)).grown (grown_alloc _ (.cells #[.int .i64 (r : Int)] 3)) (by simp)
                            have hPb := hPa.grown hga HP2.out.1
                            have hPd := hPb.grown hgb (by have := HP2.out.2; simp; omega)
                            obtain ⟨hp1, hp2⟩ := HPc3.out
                            obtain ⟨hp3, hp4⟩ := hPa
                            obtain ⟨hp5, hp6⟩ := hPb
                            obtain ⟨hp7, hp8⟩ := hPd
                            clear hG2 hF2 hrun2 hga hgb e
                            go_wp2_with fail
                            go_region_held3 (fun w' => w'.cell? ⟨P, 0, none⟩ = some (.string (K r i)) ∧ w'.cell? ⟨P, 1, none⟩ = some (.string (V r i))) (first | go_keep | exact ⟨hp3, hp4⟩ | exact ⟨hp5, hp6⟩ | exact ⟨hp7, hp8⟩)
                              ((refine step_append_run (by rfl) _ _ _ (by rfl) _ _ _ _ (by rfl) (by rfl) hrun1 ?_))
                            go_wp2_with fail
                            go_roundw
                            case rel => exact ⟨i + 1, by omega, by go_num, HG4, HF4⟩
                            case measure => simp [intOf]; omega
              · have hbe : (u.toList == (V r i).toList) = false := by rw [bytes_beq]; exact decide_eq_false huv
                have HG5 : Hid (GS W wr (4 * (sumL L r + (i + 1))) u9 u10 (psG (fun j => lastV (K j) (V j) (L j)) (K r) (V r) (L r) r (i + 1))) := by
                  rw [psG_skip (by rw [hu]; intro e; exact huv (Option.some.inj e))]
                  obtain ⟨_, _, _, _, _, _, hg⟩ := HG4.out
                  exact ⟨_, _, _, _, _, _, hg.more (by omega)⟩
                clear HG4 hu huv
                go_wp2_with fail
                go_roundw
                case rel => exact ⟨i + 1, by omega, by go_num, HG5, HF4⟩
                case measure => simp [intOf]; omega
            · obtain rfl : i = L r := by omega
              have HG5 : Hid (GS W wr (4 * sumL L (r + 1)) u9 u10 (fun g => pls (fun j => onB g (lastV (K j) (V j) (L j) g.1)) (r + 1))) := by
                rw [← psG_end (lv := fun j => lastV (K j) (V j) (L j)) (r := r) (m := L r) (K := K r) (V := V r) rfl]
                exact HG4.out
              have HF5 : Hid (FX wr W.heap.size n (r + 1) (r + 1) (fun j => lastV (K j) (V j) (L j))) := by
                obtain ⟨mb, h1, _⟩ := HF4.out
                exact ⟨mb, h1⟩
              clear HG4 HF4
              go_wp2_with fail
              go_roundw
              case rel => exact ⟨r + 1, by omega, by go_num, HG5, HF5⟩
              case measure => simp [intOf]; omega
    · obtain rfl : r = n := by omega
      obtain ⟨tg, val, fk, fl, ks, pr, hG⟩ := HG.out
      obtain ⟨mb, hF⟩ := HF.out
      clear HG HF hmk1 hmk2 hmm
      have hkl : ks.length ≤ 200000 := by have := hG.kq; have := HS.out; omega
      have hpl : pr.length ≤ 200000 := by have := hG.pq; have := HS.out; omega
      obtain ⟨ak, ck, rfl⟩ : ∃ ak ck, u9 = .slice ak ks.length ck := by
        rcases hG.keys.2 with ⟨rfl, h0⟩ | ⟨g, cap, cur, rfl, _⟩
        · exact ⟨none, 0, by rw [h0]⟩
        · exact ⟨_, _, rfl⟩
      obtain ⟨ap, cp, rfl⟩ : ∃ ap cp, u10 = .slice ap pr.length cp := by
        rcases hG.pairs.2 with ⟨rfl, h0⟩ | ⟨g, cap, cur, rfl, _⟩
        · exact ⟨none, 0, by rw [h0]⟩
        · exact ⟨_, _, rfl⟩
      have HG : Hid (Gs W wr (4 * sumL L r) (.slice ak ks.length ck) (.slice ap pr.length cp) (fun g => pls (fun j => onB g (lastV (K j) (V j) (L j) g.1)) r) tg val fk fl ks pr) := hG
      have HF : Hid (Fx wr W.heap.size r r r mb (fun j => lastV (K j) (V j) (L j))) := hF
      clear hG hF
      have HNew : Hid (Calls Try.prog 18 #[.slice (some ⟨W.heap.size, 0, none⟩) r r, .slice (some ⟨W.heap.size + 1, 0, none⟩) r r, .int .i64 tests] wr fun e w' => e = .returned (.pointer (some ⟨wr.heap.size + 3, 0, none⟩)) ∧ Hid (Cp wr w' (.slice (some ⟨W.heap.size, 0, none⟩) r r) (.slice (some ⟨W.heap.size + 1, 0, none⟩) r r) tests 0 0 (fun _ => none) (fun _ => none))) := by
        refine (new18 _ _ tests ⟨_, _, _, rfl⟩ ⟨_, _, _, rfl⟩ wr).mono ?_
        rintro e w' ⟨rfl, hw⟩
        exact ⟨rfl, Cp.new _ _ _ _ _ hw⟩
      go_wp2_with (go_at_call 18; refine HNew.out.mono ?_; rintro e w1 ⟨rfl, HC⟩)
      clear HNew
      generalize hw0 : wr = w0 at HG HF HC ⊢
      clear hw0
      go_loopw [23] (fun s23 wb => ∃ i : Nat, i ≤ ks.length ∧ s23 = .int .i64 (i : Int) ∧ ∃ fx, Hid (Cp w0 wb (.slice (some ⟨W.heap.size, 0, none⟩) r r) (.slice (some ⟨W.heap.size + 1, 0, none⟩) r r) tests i 0 fx (fun _ => none)) ∧ Hid (∀ s, fx (.string s) = atKeys (ks.take i) val s)) (fun s23 _ => ks.length - (intOf s23).toNat)
      case atStart => exact ⟨0, Nat.zero_le _, rfl, _, HC, (show ∀ s, _ = _ from fun s => by simp [atKeys])⟩
      case round =>
        clear HC
        obtain ⟨i, hi, rfl, fx, HC, HX⟩ := hrel
        by_cases hil : i < ks.length
        · obtain ⟨g, cap', hvk, _, hglt⟩ := HG.out.keys.form (by omega)
          obtain rfl : ak = some ⟨g, 0, none⟩ := by injection hvk
          have hcw : w0.cell? ⟨g, i, none⟩ = some (.string ks[i]) := by
            have := HG.out.keys
            rw [this.cellAt i (by omega)]
            simp [strs, List.getElem?_eq_getElem hil]
          have hk := HG.out.ksz _ (List.getElem_mem hil)
          obtain ⟨av, lv', cv, hval⟩ : ∃ av lv' cv, val (ks[i], none) = .slice av lv' cv := by
            rcases (HG.out.rw.own (ks[i], none)).2 with ⟨e, _⟩ | ⟨g, cap, cur, e, _⟩ <;> exact ⟨_, _, _, e⟩
          have HCell : Hid (∀ w, Below w0.heap.size w0 w → w.cell? ⟨g, i, none⟩ = some (.string ks[i])) := fun w hb => by rw [hb.cell hglt]; exact hcw
          have HLook : Hid (∀ w, Below w0.heap.size w0 w → (Instr.lookup 40 (.map (some (W.heap.size + 1 + 1))) (.string ks[i]) false).run Try.prog w = .ok (.slice av lv' cv) w) := fun w hb => by
            obtain ⟨q, c, _, hm⟩ := HG.out.key
            rw [← hval, ← HG.out.kval]
            exact (hm.same (hb.block _ hm.lt)).look K9 Try.underlying40 (zero39 _) (key9 hk)
          have HX' : Hid (∀ s, upd fx (.string ks[i]) (.slice av lv' cv) (.string s) = atKeys (ks.take (i + 1)) val s) := by
            rw [List.take_add_one, List.getElem?_eq_getElem hil, ← hval]
            exact atKeys_snoc HX.out
          generalize ks[i] = k at hcw hk hval HCell HLook HX'
          clear hvk hcw hval
          have HCall : Hid (∀ w, Cp w0 w (.slice (some ⟨W.heap.size, 0, none⟩) r r) (.slice (some ⟨W.heap.size + 1, 0, none⟩) r r) tests i 0 fx (fun _ => none) → Calls Try.prog 19 #[.pointer (some ⟨w0.heap.size + 3, 0, none⟩), .string k, .slice av lv' cv] w fun e w' => e = .returned (.tuple #[]) ∧
              Hid (Cp w0 w' (.slice (some ⟨W.heap.size, 0, none⟩) r r) (.slice (some ⟨W.heap.size + 1, 0, none⟩) r r) tests (i + 1) 0 (upd fx (.string k) (.slice av lv' cv)) (fun _ => none)) ∧ w'.cell? ⟨g, i, none⟩ = some (.string k) ∧ (Instr.lookup 40 (.map (some (W.heap.size + 1 + 1))) (.string k) false).run Try.prog w' = .ok (.slice av lv' cv) w') := by
            intro w hC
            obtain ⟨c, hm⟩ := hC.key
            refine (setKeyed19 _ _ _ _ _ k av lv' cv w hC.c3 hm (by simp only [maxLen]; omega) hk).mono ?_
            rintro e w' ⟨rfl, hst⟩
            have hC' := hC.setKey hst
            exact ⟨rfl, hC', HCell.out _ hC'.bl, HLook.out _ hC'.bl⟩
          have HC1 : Hid (Cp w0 wr.drew (.slice (some ⟨W.heap.size, 0, none⟩) r r) (.slice (some ⟨W.heap.size + 1, 0, none⟩) r r) tests i 0 fx (fun _ => none)) := HC.out.drew
          have hd1 := HCell.out _ HC.out.bl
          have hd2 := HLook.out _ HC.out.bl
          have hd3 := HLook.out _ HC1.out.bl
          have i2 : (0 : Int) ≤ (i : Int) := by omega
          have i3 : (i : Int) < (ks.length : Int) := by omega
          clear HC HX HCell HLook
          go_wp2_with fail
          go_region_held3 (fun w' => w'.cell? ⟨g, i, none⟩ = some (.string k) ∧ (Instr.lookup 40 (.map (some (W.heap.size + 1 + 1))) (.string k) false).run Try.prog w' = .ok (.slice av lv' cv) w') (go_keep)
            (first | (go_at_call 19; refine (HCall.out _ (show Cp _ _ _ _ _ _ _ _ _ from Hid.out (by assumption))).mono ?_; rintro e w1 ⟨rfl, HC2, hx1, hx2⟩))
          go_wp2_with fail
          go_roundw
          case rel => exact ⟨i + 1, by omega, by go_num, _, HC2, HX'⟩
          case measure => simp [intOf]; omega
        · obtain rfl : i = ks.length := by omega
          rw [List.take_length] at HX
          go_wp2_with fail
          go_loopw [24] (fun s24 wb => ∃ i : Nat, i ≤ pr.length ∧ s24 = .int .i64 (i : Int) ∧ ∃ fy, Hid (Cp w0 wb (.slice (some ⟨W.heap.size, 0, none⟩) r r) (.slice (some ⟨W.heap.size + 1, 0, none⟩) r r) tests ks.length i fx fy) ∧ Hid (∀ s u, fy (.agg #[.string s, .string u]) = atPairs (pr.take i) val s u)) (fun s24 _ => pr.length - (intOf s24).toNat)
          case atStart => exact ⟨0, Nat.zero_le _, rfl, _, HC, (show ∀ s u, _ = _ from fun s u => by simp [atPairs])⟩
          case round =>
            clear HC
            obtain ⟨i, hi, rfl, fy, HC, HY⟩ := hrel
            by_cases hil : i < pr.length
            · obtain ⟨g, cap', hvk, _, hglt⟩ := HG.out.pairs.form (by omega)
              obtain rfl : ap = some ⟨g, 0, none⟩ := by injection hvk
              have hcw1 : w0.cell? ⟨g, i * 2, none⟩ = some (.string pr[i].1) := by
                have := HG.out.pairs
                rw [this.cellAt (i * 2) (by omega)]
                exact (prs_get pr i hil).1
              have hcw2 : w0.cell? ⟨g, i * 2 + 1, none⟩ = some (.string pr[i].2) := by
                have := HG.out.pairs
                rw [this.cellAt (i * 2 + 1) (by omega)]
                exact (prs_get pr i hil).2
              obtain ⟨hk, hv⟩ := HG.out.psz _ (List.getElem_mem hil)
              obtain ⟨av, lv', cv, hval⟩ : ∃ av lv' cv, val (pr[i].1, some pr[i].2) = .slice av lv' cv := by
                rcases (HG.out.rw.own (pr[i].1, some pr[i].2)).2 with ⟨e, _⟩ | ⟨g, cap, cur, e, _⟩ <;> exact ⟨_, _, _, e⟩
              have HCell : Hid (∀ w, Below w0.heap.size w0 w → w.cell? ⟨g, i * 2, none⟩ = some (.string pr[i].1) ∧ w.cell? ⟨g, i * 2 + 1, none⟩ = some (.string pr[i].2)) := fun w hb => ⟨by rw [hb.cell hglt]; exact hcw1, by rw [hb.cell hglt]; exact hcw2⟩
              have HLook : Hid (∀ w, Below w0.heap.size w0 w → (Instr.lookup 41 (.map (some (W.heap.size + 1 + 1 + 1))) (.agg #[.string pr[i].1, .string pr[i].2]) false).run Try.prog w = .ok (.slice av lv' cv) w) := fun w hb => by
                obtain ⟨q, c, _, hm⟩ := HG.out.lab
                rw [← hval, ← HG.out.lval]
                exact (hm.same (hb.block _ hm.lt)).look K36 Try.underlying41 (zero39 _) (key36 hk hv)
              have HY' : Hid (∀ s u, upd fy (.agg #[.string pr[i].1, .string pr[i].2]) (.slice av lv' cv) (.agg #[.string s, .string u]) = atPairs (pr.take (i + 1)) val s u) := by
                rw [List.take_add_one, List.getElem?_eq_getElem hil, ← hval]
                exact atPairs_snoc HY.out
              generalize pr[i].1 = k at hcw1 hk hval HCell HLook HY'
              generalize pr[i].2 = v at hcw2 hv hval HCell HLook HY'
              clear hvk hcw1 hcw2 hval
              have HCall : Hid (∀ w, Cp w0 w (.slice (some ⟨W.heap.size, 0, none⟩) r r) (.slice (some ⟨W.heap.size + 1, 0, none⟩) r r) tests ks.length i fx fy → Calls Try.prog 20 #[.pointer (some ⟨w0.heap.size + 3, 0, none⟩), .string k, .string v, .slice av lv' cv] w fun e w' => e = .returned (.tuple #[]) ∧
                  Hid (Cp w0 w' (.slice (some ⟨W.heap.size, 0, none⟩) r r) (.slice (some ⟨W.heap.size + 1, 0, none⟩) r r) tests ks.length (i + 1) fx (upd fy (.agg #[.string k, .string v]) (.slice av lv' cv))) ∧ w'.cell? ⟨g, i * 2, none⟩ = some (.string k) ∧ w'.cell? ⟨g, i * 2 + 1, none⟩ = some (.string v) ∧ (Instr.lookup 41 (.map (some (W.heap.size + 1 + 1 + 1))) (.agg #[.string k, .string v]) false).run Try.prog w' = .ok (.slice av lv' cv) w') := by
                intro w hC
                obtain ⟨c, hm⟩ := hC.lbl
                refine (setLabelled20 _ _ _ _ _ k v av lv' cv w hC.c2 hm (by simp only [maxLen]; omega) hk hv).mono ?_
                rintro e w' ⟨rfl, hst⟩
                have hC' := hC.setLab hst
                exact ⟨rfl, hC', (HCell.out _ hC'.bl).1, (HCell.out _ hC'.bl).2, HLook.out _ hC'.bl⟩
              have HC1 : Hid (Cp w0 wr.drew (.slice (some ⟨W.heap.size, 0, none⟩) r r) (.slice (some ⟨W.heap.size + 1, 0, none⟩) r r) tests ks.length i fx fy) := HC.out.drew
              obtain ⟨hd1, hd1'⟩ := HCell.out _ HC.out.bl
              have hd2 := HLook.out _ HC.out.bl
              have hd3 := HLook.out _ HC1.out.bl
              have i2 : (0 : Int) ≤ (i : Int) := by omega
              have i3 : (i : Int) < (pr.length : Int) := by omega
              clear HC HY HCell HLook
              go_wp2_with fail
              go_region_held3 (fun w' => w'.cell? ⟨g, i * 2, none⟩ = some (.string k) ∧ w'.cell? ⟨g, i * 2 + 1, none⟩ = some (.string v) ∧ (Instr.lookup 41 (.map (some (W.heap.size + 1 + 1 + 1))) (.agg #[.string k, .string v]) false).run Try.prog w' = .ok (.slice av lv' cv) w') (go_keep)
                (first | (go_at_call 20; refine (HCall.out _ (show Cp _ _ _ _ _ _ _ _ _ from Hid.out (by assumption))).mono ?_; rintro e w1 ⟨rfl, HC2, hx1, hx2, hx3⟩))
              go_wp2_with fail
              go_roundw
              case rel => exact ⟨i + 1, by omega, by go_num, _, HC2, HY'⟩
              case measure => simp [intOf]; omega
            · obtain rfl : i = pr.length := by omega
              rw [List.take_length] at HY
              have HI : Hid (BuildPost W r (fun j => lastV (K j) (V j) (L j)) tests (.returned (.pointer (some ⟨w0.heap.size + 3, 0, none⟩))) wr) :=
                ⟨_, _, _, _, _, _, rfl, HG.out.bl.size, Cp.idx HG.out HF.out HC.out HX.out HY.out, HG.out.bl.trans (HC.out.bl.mono HG.out.bl.size)⟩
              clear HC HX HY HG HF
              go_wp2_with fail
              go_ret
              exact HI.out
end Go.Proofs.Qxb6601594a.Mem
