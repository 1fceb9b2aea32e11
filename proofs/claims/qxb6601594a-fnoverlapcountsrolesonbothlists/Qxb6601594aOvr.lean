import Derived.Test.Qxb6601594aOvm
namespace Go.Proofs.Qxb6601594a.Mem
open Go.ChangeShapes Go.WideShapes Go.ChangeAt Go.RowKit Go.Maps
open Go.Proofs.Qxb6601594a.Plain Go.Proofs.Qxb6601594a.Map
set_option linter.unusedVariables false
set_option linter.unusedSimpArgs false
section
variable {N n : Nat} {ms es : Addr} {mb : Nat → Nat} {fk fl : Value → Option Value} {lv : Nat → ByteArray → Option ByteArray} {t : Int}

/-- What overlap leaves on a fresh index: the count; and nothing remembered and tested, or this count and the shorter list's length. -/
def OvPost [DecidableEq Value] (W : World) (N n : Nat) (ms es : Addr) (mb : Nat → Nat) (fk fl : Value → Option Value) (lv : Nat → ByteArray → Option ByteArray) (t : Int) (k1 : Int) (a b : ByteArray) (k2 : Int) (c d : ByteArray) (e : Ending) (w' : World) : Prop :=
  e = .returned (.int .i64 (cnt (fun i => onP k1 b (lv i a) && onP k2 d (lv i c)) n)) ∧ Below N W w' ∧
  (Idx w' N n ms es mb fk fl lv t 0 (fun _ => none) ∨
   Idx w' N n ms es mb fk fl lv (t + min (cnt (fun i => onP k1 b (lv i a)) n) (cnt (fun i => onP k2 d (lv i c)) n)) 1 (upd (fun _ => none) (.agg #[.int .i64 k1, .string a, .string b, .int .i64 k2, .string c, .string d]) (.int .i64 (cnt (fun i => onP k1 b (lv i a) && onP k2 d (lv i c)) n))))

theorem OvPost.easy [DecidableEq Value] {W w' : World} {k1 k2 : Int} {a b c d : ByteArray} {e : Ending} {m : Nat} (h : Idx W N n ms es mb fk fl lv t 0 (fun _ => none)) (he : e = .returned (.int .i64 (m : Int))) (hb : Below W.heap.size W w') (hm : m = cnt (fun i => onP k1 b (lv i a) && onP k2 d (lv i c)) n) :
    OvPost W N n ms es mb fk fl lv t k1 a b k2 c d e w' := by
  subst hm
  have := h.lt
  exact ⟨he, hb.mono (by omega), .inl (h.below hb)⟩

theorem cnt_zero {p : Nat → Bool} : ∀ {n}, (∀ i, p i = false) → cnt p n = 0
  | 0, _ => rfl
  | n + 1, h => by unfold cnt; rw [cnt_zero h, h n]; rfl

theorem overlap21 [DecidableEq Value] (k1 : Int) (a b : ByteArray) (k2 : Int) (c d : ByteArray) (W : World) (h : Idx W N n ms es mb fk fl lv t 0 (fun _ => none))
    (hk1 : (Lit.int .i64 k1).wf = true) (hk2 : (Lit.int .i64 k2).wf = true) (ha : a.size ≤ 9223372036854775807) (hb : b.size ≤ 9223372036854775807) (hc : c.size ≤ 9223372036854775807) (hd : d.size ≤ 9223372036854775807)
    (k2x : k2 = 2 ∨ k2 = 3) (hn : n ≤ 1048576) (ht0 : 0 ≤ t) (ht1 : t ≤ 1073741824) :
    Calls Try.prog 21 #[.pointer (some ⟨N + 3, 0, none⟩), .agg #[.int .i64 k1, .string a, .string b], .agg #[.int .i64 k2, .string c, .string d]] W fun e w' => OvPost W N n ms es mb fk fl lv t k1 a b k2 c d e w' := by
  by_cases k11 : k1 = 1
  · subst k11
    refine (overlapEvery b a k2 c d W h hc hd).mono ?_
    rintro e w' ⟨he, hbl⟩
    exact OvPost.easy h he hbl (cnt_congr fun i _ => by rw [onP1]; simp)
  by_cases hac : a = c
  · subst hac
    by_cases k12 : k1 = 2
    · subst k12
      refine (overlapKey b a k2 d W h ha hd).mono ?_
      rintro e w' ⟨he, hbl⟩
      refine OvPost.easy h he hbl (cnt_congr fun i _ => ?_)
      rw [onP2]
      rcases k2x with rfl | rfl
      · rw [onP2]; simp
      · rw [onP3]; cases lv i a <;> simp
    · by_cases k22 : k2 = 2
      · subst k22
        refine (overlapPairKey k1 b a d W h ha hb k11 k12).mono ?_
        rintro e w' ⟨he, hbl⟩
        refine OvPost.easy h he hbl (cnt_congr fun i _ => ?_)
        rw [onP2]
        by_cases k13 : k1 = 3
        · subst k13; rw [onP3]; cases lv i a <;> simp
        · rw [onP0 _ _ k11 k12 k13]; simp
      · obtain rfl : k2 = 3 := by omega
        by_cases hdb : d = b
        · subst hdb
          refine (overlapPair k1 d a 3 W h ha hd k11 k12 k22).mono ?_
          rintro e w' ⟨he, hbl⟩
          refine OvPost.easy h he hbl (cnt_congr fun i _ => ?_)
          by_cases k13 : k1 = 3
          · subst k13; rw [onP3]; simp
          · rw [onP0 _ _ k11 k12 k13]; simp
        · refine (overlapApart (N := N) k1 b a 3 d W hdb k11 k12 k22).mono ?_
          rintro e w' ⟨he, hbl⟩
          refine OvPost.easy (m := 0) h he hbl (cnt_zero fun i => ?_).symm
          by_cases k13 : k1 = 3
          · subst k13
            rw [onP3, onP3]
            by_cases e1 : lv i a = some b
            · have e2 : ¬ lv i a = some d := fun e => hdb (by rw [e1] at e; exact (Option.some.inj e).symm)
              simp [e2]
            · simp [e1]
          · rw [onP0 _ _ k11 k12 k13]; simp
  · refine (overlapMain k1 a b k2 c d W h rfl hk1 hk2 ha hb hc hd hac k11 hn ht0 ht1).mono ?_
    rintro e w' ⟨he, hI, hbl⟩
    exact ⟨he, hbl, .inr hI⟩

set_option maxHeartbeats 1600000 in
theorem overlap9 [DecidableEq Value] (k1 : Int) (a b : ByteArray) (k2 : Int) (c d : ByteArray) (W : World) (h : Idx W N n ms es mb fk fl lv t 0 (fun _ => none))
    (hk1 : (Lit.int .i64 k1).wf = true) (hk2 : (Lit.int .i64 k2).wf = true) (ha : a.size ≤ 9223372036854775807) (hb : b.size ≤ 9223372036854775807) (hc : c.size ≤ 9223372036854775807) (hd : d.size ≤ 9223372036854775807)
    (k2x : k2 = 2 ∨ k2 = 3) (hn : n ≤ 1048576) (ht0 : 0 ≤ t) (ht1 : t ≤ 1073741824) :
    Calls Try.prog 9 #[.pointer (some ⟨N + 3, 0, none⟩), .int .i64 k1, .string a, .string b, .int .i64 k2, .string c, .string d] W fun e w' => OvPost W N n ms es mb fk fl lv t k1 a b k2 c d e w' := by
  have HC : Hid (∀ (w : World) (kd : Int) (ky vl : ByteArray), Below W.heap.size W w → Calls Try.prog 22 #[.int .i64 kd, .string ky, .string vl] w fun e w' => e = .returned (.agg #[.int .i64 kd, .string ky, .string vl]) ∧ Hid (Below W.heap.size W w')) := by
    intro w kd ky vl hbw
    refine (roleList kd ky vl w).mono ?_
    rintro e w' ⟨rfl, hb'⟩
    exact ⟨rfl, hbw.trans (hb'.mono hbw.size)⟩
  have HO : Hid (∀ w : World, Below W.heap.size W w → Calls Try.prog 21 #[.pointer (some ⟨N + 3, 0, none⟩), .agg #[.int .i64 k1, .string a, .string b], .agg #[.int .i64 k2, .string c, .string d]] w fun e w' => e = .returned (.int .i64 (cnt (fun i => onP k1 b (lv i a) && onP k2 d (lv i c)) n)) ∧ Hid (OvPost W N n ms es mb fk fl lv t k1 a b k2 c d e w')) := by
    intro w hbw
    refine (overlap21 k1 a b k2 c d w (h.below hbw) hk1 hk2 ha hb hc hd k2x hn ht0 ht1).mono ?_
    rintro e w' ⟨h1, h2, h3⟩
    have := h.lt
    exact ⟨h1, h1, (hbw.mono (by omega)).trans h2, h3⟩
  have HB0 : Hid (Below W.heap.size W W) := Below.refl _ _
  clear h
  go_enter Try.func9, Try.ntmps9
  go_wp2_with (first | (go_at_call 22; refine (HC.out _ _ _ _ (show Below _ _ _ from Hid.out (by assumption))).mono ?_; rintro e w1 ⟨rfl, hB⟩) | (go_at_call 21; refine (HO.out _ (show Below _ _ _ from Hid.out (by assumption))).mono ?_; rintro e w1 ⟨rfl, hP⟩))
  go_ret
  exact hP.out
end
end Go.Proofs.Qxb6601594a.Mem
