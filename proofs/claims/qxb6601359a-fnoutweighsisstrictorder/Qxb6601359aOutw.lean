import Derived.Test.Qxb6601359aMem
namespace Go.Proofs.Qxb6601359a.Outw
open Go.ChangeShapes Go.WideShapes Go.ChangeAt Go.RowKit
open Go.Proofs.Qxb6601359a.Mem
set_option linter.unusedVariables false
set_option linter.unusedSimpArgs false

set_option maxHeartbeats 800000 in
theorem zzOutweighs (xk : Addr) (nk ck : Nat) (zk : Nat → Int) (yk : Int) (xo : Addr) (no co : Nat) (zo : Nat → Int) (yo : Int) (byEv : Bool) (W : World)
    (hk : ∀ i, i < nk → W.cell? (xk.add i) = some (.int .u64 (zk i))) (ho : ∀ i, i < no → W.cell? (xo.add i) = some (.int .u64 (zo i))) (k0 : 0 < nk) (o0 : 0 < no) (k1 : nk ≤ 1048576) (o1 : no ≤ 1048576) :
    Calls Try.prog 20 #[.slice (some xk) nk ck, .int .i64 yk, .slice (some xo) no co, .int .i64 yo, .bool byEv] W fun e w' => e = .returned (.bool (ow nk yk (zk 0) no yo (zo 0) byEv)) ∧ Below W.heap.size W w' := by
  have HK : Hid (∀ i, i < nk → W.cell? (xk.add i) = some (.int .u64 (zk i))) := hk
  have HO : Hid (∀ i, i < no → W.cell? (xo.add i) = some (.int .u64 (zo i))) := ho
  clear hk ho
  go_enter Try.func20, Try.ntmps20
  go_wp2_with fail
  refine (kindHist xk nk ck zk 0 yk _ HK.out k1).mono ?_
  rintro e w1 ⟨rfl, q1, b1, s1⟩
  have Q1 : Hid (KH w1 (W.heap.size + 1) nk zk yk) := q1
  have HB1 : Hid (Below W.heap.size W w1) := b1
  have HO1 : Hid (∀ i, i < no → w1.cell? (xo.add i) = some (.int .u64 (zo i))) := fun i hi => by rw [b1.cell (lt_of_cell (HO.out i hi))]; exact HO.out i hi
  have l1 : W.heap.size ≤ w1.heap.size := b1.size
  clear q1 b1 HO HK s1
  go_wp2_with fail
  refine (kindHist xo no co zo 0 yo _ HO1.out o1).mono ?_
  rintro e w2 ⟨rfl, q2, b2, s2⟩
  have Q2 : Hid (KH w2 (w1.heap.size + 1) no zo yo) := q2
  have Q1' : Hid (KH w2 (W.heap.size + 1) nk zk yk) := Q1.out.below b2
  have HB2 : Hid (Below W.heap.size W w2) := HB1.out.trans (b2.mono (by omega))
  clear q2 b2 HO1 s2
  go_wp2_with fail
  refine (outweighs _ nk zk yk _ no zo yo byEv _ Q1'.out Q2.out k0 o0 k1 o1).mono ?_
  rintro e w3 ⟨rfl, m, rfl⟩
  go_wp2_with fail
  go_ret
  exact ⟨rfl, below_drewN' HB2.out _⟩

set_option maxHeartbeats 400000 in
theorem bytes19 (a0 : Option Addr) (n0 c0 : Nat) (y0 : Int) (a2 : Option Addr) (n2 c2 : Nat) (y2 : Int) (byEv : Bool) (h0 : n0 ≤ maxLen) (h2 : n2 ≤ maxLen) (w : World) (b : Bool) (hb : b = decide (n0 + n2 ≤ 1048576)) :
    Calls Try.prog 19 #[.slice a0 n0 c0, .int .i64 y0, .slice a2 n2 c2, .int .i64 y2, .bool byEv] w fun e w' => e = .returned (.bool b) ∧ w' = w := by
  unfold maxLen at h0 h2
  by_cases h : n0 + n2 ≤ 1048576
  · obtain rfl : b = true := by simp [hb, h]
    clear hb
    go_enter Try.func19, Try.ntmps19
    go_wp2
    go_ret
    exact ⟨rfl, rfl⟩
  · obtain rfl : b = false := by simp [hb, h]
    clear hb
    by_cases h1 : n0 ≤ 1048576
    · by_cases h2 : n2 ≤ 1048576
      · go_enter Try.func19, Try.ntmps19
        go_wp2
        go_ret
        exact ⟨rfl, rfl⟩
      · go_enter Try.func19, Try.ntmps19
        go_wp2
        go_ret
        exact ⟨rfl, rfl⟩
    · go_enter Try.func19, Try.ntmps19
      go_wp2
      go_ret
      exact ⟨rfl, rfl⟩

/-- What 'zzOwWeight' answers. -/
def wt (n : Nat) (b : Int) (byEv : Bool) : Int := if byEv = true then (n : Int) else b

set_option maxHeartbeats 400000 in
theorem weight (a : Option Addr) (n c : Nat) (y : Int) (byEv : Bool) (w : World) :
    Calls Try.prog 21 #[.slice a n c, .int .i64 y, .bool byEv] w fun e w' => e = .returned (.int .i64 (wt n y byEv)) ∧ w' = w := by
  cases byEv
  · go_enter Try.func21, Try.ntmps21
    go_wp2
    go_ret
    exact ⟨rfl, rfl⟩
  · go_enter Try.func21, Try.ntmps21
    go_wp2
    go_ret
    exact ⟨rfl, rfl⟩

theorem row_cells {w : World} {b n : Nat} {z : Nat → Int} (h : w.rowIs b 24 n (fun i => .int .u64 (z i))) : ∀ i, i < n → w.cell? ((⟨b, 0, none⟩ : Addr).add i) = some (.int .u64 (z i)) := by
  intro i hi
  have := h.cell hi
  by_cases h0 : i = 0
  · subst h0; exact this
  · simpa [Addr.add, h0] using this

/-- The plain law. -/
theorem law (nk : Nat) (bk zk : Int) (no : Nat) (bo zo : Int) (byEv : Bool) :
    (!ow nk bk zk nk bk zk byEv) = true ∧ (!(ow nk bk zk no bo zo byEv && ow no bo zo nk bk zk byEv)) = true ∧
    ((!ow nk bk zk no bo zo byEv && !ow no bo zo nk bk zk byEv) = (wt nk bk byEv == wt no bo byEv && zk == zo)) := by
  cases byEv
  · refine ⟨by simp [ow], ?_, ?_⟩
    · by_cases h : bk = bo
      · subst h; simp [ow]; omega
      · simp [ow, h, Ne.symm h]; omega
    · by_cases h : bk = bo
      · subst h; rw [Bool.eq_iff_iff]; simp [ow, wt]; omega
      · rw [Bool.eq_iff_iff]; simp [ow, wt, h, Ne.symm h]; omega
  · refine ⟨by simp [ow], ?_, ?_⟩
    · by_cases h : (nk : Int) = no
      · simp [ow, h]; omega
      · simp only [ow, if_true, if_neg h, if_neg (Ne.symm h)]; simp; omega
    · by_cases h : (nk : Int) = no
      · rw [Bool.eq_iff_iff]; simp [ow, wt, h]; omega
      · rw [Bool.eq_iff_iff]; simp only [ow, wt, if_true, if_neg h, if_neg (Ne.symm h)]; simp; omega
/-- WHAT THE WALK IS TOLD OF A SLICE OF INTEGERS THAT CAME IN: it is nil; or it leads to a row of 'cap' cells, the numbers 'zs' (the first 'len' are its elements, the rest its spare room), each fitting its kind. -/
def IsRow (k : IntKind) (w : World) (a : Option Addr) (len cap : Nat) (zs : List Int) : Prop :=
  (a = none ∧ len = 0 ∧ cap = 0 ∧ zs = []) ∨
  ∃ x, a = some x ∧ len ≤ cap ∧ cap ≤ maxLen ∧ zs.length = cap ∧ (∀ i, i < zs.length → w.cell? (x.add i) = some (.int k (zs.getD i 0))) ∧ ∀ n ∈ zs, (Lit.int k n).wf = true


theorem IsRow.cells {w : World} {a : Option Addr} {len cap : Nat} {zs : List Int} (h : IsRow .u64 w a len cap zs) (h0 : 0 < len) : ∃ x, a = some x ∧ ∀ i, i < len → w.cell? (x.add i) = some (.int .u64 (zs.getD i 0)) := by
  rcases h with ⟨_, h, _⟩ | ⟨x, rfl, hl, hm, hz, hc, _⟩
  · omega
  · exact ⟨x, rfl, fun i hi => hc i (by omega)⟩
theorem IsRow.len {w : World} {a : Option Addr} {len cap : Nat} {zs : List Int} (h : IsRow .u64 w a len cap zs) : len ≤ maxLen := by
  rcases h with ⟨_, h, _⟩ | ⟨x, rfl, hl, hm, hz, hc, _⟩
  · omega
  · omega

set_option maxHeartbeats 1600000 in
theorem walk (a0 : Option Addr) (len0 cap0 : Nat) (z0 : List Int) (a1 : Int) (a2 : Option Addr) (len2 cap2 : Nat) (z2 : List Int) (a3 : Int) (a4 : Bool) (w : World) (w0 : IsRow .u64 w a0 len0 cap0 z0) (w1 : (Lit.int .i64 a1).wf = true) (w2 : IsRow .u64 w a2 len2 cap2 z2) (w3 : (Lit.int .i64 a3).wf = true) :
    Calls Try.prog 7 #[.slice a0 len0 cap0, .int .i64 a1, .slice a2 len2 cap2, .int .i64 a3, .bool a4] w fun e w' => e = .returned (.bool true) ∧ Below w.heap.size w w' := by
  have m0 := w0.len
  have m2 := w2.len
  have m0' := m0
  have m2' := m2
  unfold maxLen at m0' m2'
  clear w1 w3
  by_cases hbig : len0 + len2 ≤ 1048576
  case neg =>
    clear w0 w2
    go_enter Try.func7, Try.ntmps7
    go_wp2_with (go_at_call 19; refine (bytes19 _ _ _ _ _ _ _ _ _ m0 m2 _ false (by simp [hbig])).mono ?_; rintro e w' ⟨rfl, rfl⟩)
    go_ret
    exact ⟨rfl, Below.refl _ _⟩
  have H19 : Hid (∀ w, Calls Try.prog 19 #[.slice a0 len0 cap0, .int .i64 a1, .slice a2 len2 cap2, .int .i64 a3, .bool a4] w fun e w' => e = .returned (.bool true) ∧ w' = w) := fun w => bytes19 _ _ _ _ _ _ _ _ _ m0 m2 _ true (by simp [hbig])
  by_cases hb0 : (65536 : Int) < len0
  · clear w0 w2
    go_enter Try.func7, Try.ntmps7
    go_wp2_with (go_at_call 19; refine (H19.out _).mono ?_; rintro e w' ⟨rfl, rfl⟩)
    go_ret
    exact ⟨rfl, Below.refl _ _⟩
  by_cases hb2 : (65536 : Int) < len2
  · clear w0 w2
    go_enter Try.func7, Try.ntmps7
    go_wp2_with (go_at_call 19; refine (H19.out _).mono ?_; rintro e w' ⟨rfl, rfl⟩)
    go_ret
    exact ⟨rfl, Below.refl _ _⟩
  have hb3 : ¬ (1048576 : Int) < 8 * ((len0 : Int) + len2) := by omega
  by_cases hz0 : len0 = 0
  · have hz0' : ((len0 : Int) == 0) = true := by rw [beq_iff_eq]; omega
    clear w0 w2 hz0
    go_enter Try.func7, Try.ntmps7
    go_wp2_with (go_at_call 19; refine (H19.out _).mono ?_; rintro e w' ⟨rfl, rfl⟩)
    go_ret
    exact ⟨rfl, Below.refl _ _⟩
  have hz0' : ((len0 : Int) == 0) = false := by rw [beq_eq_false_iff_ne]; omega
  by_cases hz2 : len2 = 0
  · have hz2' : ((len2 : Int) == 0) = true := by rw [beq_iff_eq]; omega
    clear w0 w2 hz0 hz2
    go_enter Try.func7, Try.ntmps7
    go_wp2_with (go_at_call 19; refine (H19.out _).mono ?_; rintro e w' ⟨rfl, rfl⟩)
    go_ret
    exact ⟨rfl, Below.refl _ _⟩
  have hz2' : ((len2 : Int) == 0) = false := by rw [beq_eq_false_iff_ne]; omega
  have p0 : 0 < len0 := by omega
  have p2 : 0 < len2 := by omega
  clear hz0 hz2
  obtain ⟨x0, rfl, c0⟩ := w0.cells p0
  obtain ⟨x2, rfl, c2⟩ := w2.cells p2
  clear w0 w2
  obtain ⟨f0, C0⟩ : ∃ f : Nat → Int, Hid (∀ i, i < len0 → w.cell? (x0.add i) = some (.int .u64 (f i))) := ⟨fun i => z0.getD i 0, c0⟩
  obtain ⟨f2, C2⟩ : ∃ f : Nat → Int, Hid (∀ i, i < len2 → w.cell? (x2.add i) = some (.int .u64 (f i))) := ⟨fun i => z2.getD i 0, c2⟩
  clear c0 c2
  obtain ⟨la1, la2, la3⟩ := law len0 a1 (f0 0) len2 a3 (f2 0) a4
  have LA : Hid _ := And.intro la1 (And.intro la2 la3)
  clear la1 la2 la3
  go_enter Try.func7, Try.ntmps7
  go_wp2_with (go_at_call 19; refine (H19.out _).mono ?_; rintro e w' ⟨rfl, rfl⟩)
  refine (clone x0 len0 cap0 f0 _ C0.out (by omega)).mono ?_
  rintro e v1 ⟨rfl, r1, b1, s1⟩
  have R1 : Hid (v1.rowIs w'.heap.size 24 len0 (fun i => .int .u64 (f0 i))) := r1
  have B1 : Hid (Below w'.heap.size w' v1) := b1
  have l1 : w'.heap.size ≤ v1.heap.size := b1.size
  have C2' : Hid (∀ i, i < len2 → v1.cell? (x2.add i) = some (.int .u64 (f2 i))) := fun i hi => by rw [b1.cell (lt_of_cell (C2.out i hi))]; exact C2.out i hi
  clear r1 b1 s1 C0 C2
  go_wp2_with fail
  refine (clone x2 len2 cap2 f2 _ C2'.out (by omega)).mono ?_
  rintro e v2 ⟨rfl, r2, b2, s2⟩
  have R2 : Hid (v2.rowIs v1.heap.size 24 len2 (fun i => .int .u64 (f2 i))) := r2
  have R1' : Hid (v2.rowIs w'.heap.size 24 len0 (fun i => .int .u64 (f0 i))) := R1.out.of_block (b2.block _ R1.out.lt)
  have B2 : Hid (Below w'.heap.size w' v2) := B1.out.trans (b2.mono l1)
  have l2 : v1.heap.size ≤ v2.heap.size := b2.size
  clear r2 b2 s2 C2' R1 B1
  go_wp2_with fail
  refine (zzOutweighs _ len0 len0 f0 a1 _ len0 len0 f0 a1 a4 _ (row_cells R1'.out) (row_cells R1'.out) p0 p0 (by omega) (by omega)).mono ?_
  rintro e v3 ⟨rfl, b3⟩
  have R2' : Hid (v3.rowIs v1.heap.size 24 len2 (fun i => .int .u64 (f2 i))) := R2.out.of_block (b3.block _ R2.out.lt)
  have R1 : Hid (v3.rowIs w'.heap.size 24 len0 (fun i => .int .u64 (f0 i))) := R1'.out.of_block (b3.block _ R1'.out.lt)
  have B3 : Hid (Below w'.heap.size w' v3) := B2.out.trans (b3.mono (by omega))
  have l3 : v2.heap.size ≤ v3.heap.size := b3.size
  clear b3 B2 R2 R1'
  go_wp2_with fail
  refine (zzOutweighs _ len0 len0 f0 a1 _ len2 len2 f2 a3 a4 _ (row_cells R1.out) (row_cells R2'.out) p0 p2 (by omega) (by omega)).mono ?_
  rintro e v4 ⟨rfl, b4⟩
  have R2 : Hid (v4.rowIs v1.heap.size 24 len2 (fun i => .int .u64 (f2 i))) := R2'.out.of_block (b4.block _ R2'.out.lt)
  have R1' : Hid (v4.rowIs w'.heap.size 24 len0 (fun i => .int .u64 (f0 i))) := R1.out.of_block (b4.block _ R1.out.lt)
  have B4 : Hid (Below w'.heap.size w' v4) := B3.out.trans (b4.mono (by omega))
  have l4 : v3.heap.size ≤ v4.heap.size := b4.size
  clear b4 B3 R2' R1
  go_wp2_with fail
  refine (zzOutweighs _ len2 len2 f2 a3 _ len0 len0 f0 a1 a4 _ (row_cells R2.out) (row_cells R1'.out) p2 p0 (by omega) (by omega)).mono ?_
  rintro e v5 ⟨rfl, b5⟩
  have R2' : Hid (v5.rowIs v1.heap.size 24 len2 (fun i => .int .u64 (f2 i))) := R2.out.of_block (b5.block _ R2.out.lt)
  have R1 : Hid (v5.rowIs w'.heap.size 24 len0 (fun i => .int .u64 (f0 i))) := R1'.out.of_block (b5.block _ R1'.out.lt)
  have B5 : Hid (Below w'.heap.size w' v5) := B4.out.trans (b5.mono (by omega))
  clear b5 B4 R2 R1'
  have d0 : v5.cell? ⟨w'.heap.size, 0, none⟩ = some (.int .u64 (f0 0)) := R1.out.cell p0
  have d2 : v5.cell? ⟨v1.heap.size, 0, none⟩ = some (.int .u64 (f2 0)) := R2'.out.cell p2
  clear R1 R2' H19 l1 l2 l3 l4
  obtain ⟨la1, la2, la3⟩ := LA.out
  clear LA
  generalize hA : ow len0 a1 (f0 0) len0 a1 (f0 0) a4 = A at la1 ⊢
  generalize hB : ow len0 a1 (f0 0) len2 a3 (f2 0) a4 = B at la2 la3 ⊢
  generalize hC : ow len2 a3 (f2 0) len0 a1 (f0 0) a4 = C at la2 la3 ⊢
  clear hA hB hC
  have LA3 : Hid ((!B && !C) = (wt len0 a1 a4 == wt len2 a3 a4 && f0 0 == f2 0)) := la3
  clear la3
  obtain rfl : A = false := by simpa using la1
  clear la1
  cases hw : (wt len0 a1 a4 == wt len2 a3 a4) <;> cases hE : (f0 0 == f2 0) <;> cases B <;> cases C
  all_goals
    first
      | (exfalso; revert la2; decide)
      | (exfalso; have h := LA3.out; rw [hw, hE] at h; revert h; decide)
      | (clear la2 LA3
         go_wp2_with fail
         go_quiet ((go_at_call 21; exact Calls.quiet_of_same (weight _ _ _ _ _ _)))
         go_wp2_with fail
         go_ret
         exact ⟨rfl, below_drewN' B5.out _⟩)
end Go.Proofs.Qxb6601359a.Outw
