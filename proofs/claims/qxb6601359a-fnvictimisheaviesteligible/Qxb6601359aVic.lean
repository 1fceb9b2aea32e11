import Derived.Test.Qxb6601359aMem
import Derived.Maps.RangeWalk
import Derived.Maps.OwnSet
import Derived.LaidEqlPtr
namespace Go.Proofs.Qxb6601359a.Vic
open Go.ChangeShapes Go.WideShapes Go.ChangeAt Go.RowKit Go.Maps
open Go.Proofs.Qxb6601359a.Mem
set_option linter.unusedVariables false
set_option linter.unusedSimpArgs false

/-- How a pointer to a kindHistory reads here: as its block's number. -/
def ptrElem : Value → Option (DataW Unit × List MemPlace)
  | .pointer none => some (.nil, [])
  | .pointer (some ⟨b, 0, none⟩) => some (.lit (.int .i64 b), [])
  | _ => none
theorem ptrElem_inv (v : Value) (y : DataW Unit × List MemPlace) (h : ptrElem v = some y) : ∃ c : Option Nat, v = .pointer (c.map fun b => ⟨b, 0, none⟩) := by
  unfold ptrElem at h
  split at h
  · exact ⟨none, rfl⟩
  · exact ⟨some _, rfl⟩
  · cases h
theorem ptrElem_some (b : Nat) : ptrElem (.pointer (some ⟨b, 0, none⟩)) = some (.lit (.int .i64 b), []) := rfl

theorem law9 : Keyed Try.prog 9 := string_keyed Try.underlying9
theorem info55 : (Try.prog.info? 55).map (fun i => (i.size, i.bytes)) = some (3, 40) := by kernel_rfl
theorem cells43 : Try.prog.cellsOf 43 = 6 := by kernel_rfl

/-- What the kinds are, as plain data: names, how many events, their numbers, bytes; how the answer is weighed. -/
structure Kinds where
  n : Nat
  nm : Nat → List UInt8
  L : Nat → Nat
  Z : Nat → Nat → Int
  Bt : Nat → Int

/-- The entry of its name that the map holds: no later one bears the name. -/
def Kinds.Live (K : Kinds) (i : Nat) : Prop := i < K.n ∧ ∀ j, i < j → j < K.n → K.nm j ≠ K.nm i
/-- i outweighs j. -/
def Kinds.beats (K : Kinds) (byEv : Bool) (i j : Nat) : Bool := ow (K.L i) (K.Bt i) (K.Z i 0) (K.L j) (K.Bt j) (K.Z j 0) byEv
/-- i may be dropped from; 'nw': the block of the newest, 'pb': the blocks. -/
def Kinds.elig (K : Kinds) (pb : Nat → Nat) (nw : Option Nat) (i : Nat) : Bool := decide (0 < K.L i) && !(decide (nw = some (pb i)) && decide (K.L i = 1))

theorem ow_trans (nj : Nat) (bj zj : Int) (nv : Nat) (bv zv : Int) (nk : Nat) (bk zk : Int) (byEv : Bool) (h1 : ow nj bj zj nv bv zv byEv = false) (h2 : ow nk bk zk nv bv zv byEv = true) : ow nj bj zj nk bk zk byEv = false := by
  cases byEv
  · simp only [ow, Bool.false_eq_true, if_false] at *
    repeat' split at h1
    all_goals repeat' split at h2
    all_goals repeat' split
    all_goals simp only [decide_eq_true_eq, decide_eq_false_iff_not] at *
    all_goals omega
  · simp only [ow, if_true] at *
    repeat' split at h1
    all_goals repeat' split at h2
    all_goals repeat' split
    all_goals simp only [decide_eq_true_eq, decide_eq_false_iff_not] at *
    all_goals omega
theorem ow_self (n : Nat) (b z : Int) (byEv : Bool) : ow n b z n b z byEv = false := by
  cases byEv <;> simp [ow]

/-- What 'victim' has found among those that are no longer to come. -/
def Found (K : Kinds) (pb : Nat → Nat) (nw : Option Nat) (byEv : Bool) (left : Nat → Bool) : Option Nat → Prop
  | none => ∀ i, K.Live i → K.elig pb nw i = true → left i = true
  | some v => K.Live v ∧ K.elig pb nw v = true ∧ ∀ i, K.Live i → K.elig pb nw i = true → left i = false → K.beats byEv i v = false

theorem live_same (K : Kinds) (i j : Nat) (hi : K.Live i) (hj : K.Live j) (h : K.nm i = K.nm j) : i = j := by
  rcases Nat.lt_trichotomy i j with h1 | h1 | h1
  · exact absurd h.symm (hi.2 j h1 hj.1)
  · exact h1
  · exact absurd h (hj.2 i h1 hi.1)
/-- what is still to come, once the entry of i has come -/
def strike (K : Kinds) (left : Nat → Bool) (i j : Nat) : Bool := left j && !decide (K.nm j = K.nm i)
theorem strike_false (K : Kinds) (left : Nat → Bool) (i j : Nat) (hi : K.Live i) (hj : K.Live j) (h : strike K left i j = false) : left j = false ∨ j = i := by
  unfold strike at h
  rw [Bool.and_eq_false_iff] at h
  rcases h with h | h
  · exact Or.inl h
  · simp at h; exact Or.inr (live_same K j i hj hi h)
theorem found_skip (K : Kinds) (pb : Nat → Nat) (nw : Option Nat) (byEv : Bool) (left : Nat → Bool) (vo : Option Nat) (i : Nat) (hi : K.Live i) (he : K.elig pb nw i = false) (h : Found K pb nw byEv left vo) : Found K pb nw byEv (strike K left i) vo := by
  cases vo with
  | none =>
    intro j hj hej
    cases hs : strike K left i j
    · rcases strike_false K left i j hi hj hs with h1 | h1
      · rw [h j hj hej] at h1; exact h1.symm
      · rw [h1, he] at hej; exact hej
    · rfl
  | some v =>
    refine ⟨h.1, h.2.1, fun j hj hej hs => ?_⟩
    rcases strike_false K left i j hi hj hs with h1 | h1
    · exact h.2.2 j hj hej h1
    · rw [h1, he] at hej; exact absurd hej (by decide)
theorem found_first (K : Kinds) (pb : Nat → Nat) (nw : Option Nat) (byEv : Bool) (left : Nat → Bool) (i : Nat) (hi : K.Live i) (he : K.elig pb nw i = true) (h : Found K pb nw byEv left none) : Found K pb nw byEv (strike K left i) (some i) := by
  refine ⟨hi, he, fun j hj hej hs => ?_⟩
  rcases strike_false K left i j hi hj hs with h1 | h1
  · rw [h j hj hej] at h1; exact absurd h1 (by decide)
  · rw [h1]; exact ow_self _ _ _ _
theorem found_beat (K : Kinds) (pb : Nat → Nat) (nw : Option Nat) (byEv : Bool) (left : Nat → Bool) (v i : Nat) (hi : K.Live i) (he : K.elig pb nw i = true) (hb : K.beats byEv i v = true) (h : Found K pb nw byEv left (some v)) : Found K pb nw byEv (strike K left i) (some i) := by
  refine ⟨hi, he, fun j hj hej hs => ?_⟩
  rcases strike_false K left i j hi hj hs with h1 | h1
  · exact ow_trans _ _ _ _ _ _ _ _ _ _ (h.2.2 j hj hej h1) hb
  · rw [h1]; exact ow_self _ _ _ _
theorem found_keep (K : Kinds) (pb : Nat → Nat) (nw : Option Nat) (byEv : Bool) (left : Nat → Bool) (v i : Nat) (hi : K.Live i) (hb : K.beats byEv i v = false) (h : Found K pb nw byEv left (some v)) : Found K pb nw byEv (strike K left i) (some v) := by
  refine ⟨h.1, h.2.1, fun j hj hej hs => ?_⟩
  rcases strike_false K left i j hi hj hs with h1 | h1
  · exact h.2.2 j hj hej h1
  · rw [h1]; exact hb
theorem strike_keys (K : Kinds) (left : Lit → Bool) (i : Nat) : (fun j => (fun z : Lit => left z && !z.sameKey (.string (K.nm i))) (.string (K.nm j))) = strike K (fun j => left (.string (K.nm j))) i := by
  funext j
  unfold strike
  show (left (.string (K.nm j)) && !(K.nm j == K.nm i)) = _
  congr 2
  rw [Bool.eq_iff_iff]; simp

theorem KH.block {W : World} {b n : Nat} {z : Nat → Int} {y : Int} (h : KH W b n z y) : ∃ c, W.heap[b]? = some (.cells c 55 (0, 0)) := by
  obtain ⟨e, s, _, ⟨c, hc, _⟩⟩ := h
  exact ⟨c, hc⟩
theorem ptr_eql {W : World} {a b n m : Nat} {z u : Nat → Int} {y x : Int} (ha : KH W a n z y) (hb : KH W b m u x) :
    (binOp .eql 45 (.pointer (some ⟨a, 0, none⟩)) (.pointer (some ⟨b, 0, none⟩))).run Try.prog W = .ok (.bool (decide (a = b))) W := by
  obtain ⟨i, hi, hs⟩ := Option.map_eq_some_iff.1 info55
  simp only [Prod.mk.injEq] at hs
  by_cases h : a = b
  · subst h
    rw [run_eql_ptr_same W ⟨a, 0, none⟩ Try.underlying45 hi]
    simp
  · obtain ⟨ca, ea⟩ := KH.block ha
    obtain ⟨cb, eb⟩ := KH.block hb
    rw [run_eql_ptr_other W (a := ⟨a, 0, none⟩) (b := ⟨b, 0, none⟩) Try.underlying45 hi (by omega) (by intro e; exact h (by injection e)) ea eb]
    simp [h]

theorem ranges_drewN {w : World} {P : Program} {k : TypeId} {R : Value → Option (DataW Unit × List MemPlace)} {b r n : Nat} {D : DataW Unit} {left : Lit → Bool} {cnt : Nat} (h : w.ranges P k R b r n D left cnt) (m : Nat) : (w.drewN m).ranges P k R b r n D left cnt := h
theorem keyOf_string_inv {key : Value} {kl : Lit} (h : keyOf Try.prog 9 key = some kl) : ∃ x : ByteArray, key = .string x := by
  cases key <;> simp [keyOf, Try.underlying9, mapKey] at h
  exact ⟨_, rfl⟩

set_option maxHeartbeats 1600000 in
theorem victim (K : Kinds) (pb : Nat → Nat) (hb mb : Nat) (D : DataW Unit) (ev mx : Int) (nw : Option Nat) (pv : Option Addr) (W : World)
    (c0 : W.cell? ⟨hb, 0, none⟩ = some (.map (some mb))) (c2 : W.cell? ⟨hb, 2, none⟩ = some (.int .i64 ev)) (c4 : W.cell? ⟨hb, 4, none⟩ = some (.int .i64 mx))
    (hown : W.ownsMap Try.prog 9 ptrElem mb K.n D) (M1 : ∀ i, K.Live i → ∀ zd, D.atKey (.string (K.nm i)) zd = .lit (.int .i64 (pb i)))
    (M2 : ∀ kl, Maps.has D kl = true → ∃ i, K.Live i ∧ kl = .string (K.nm i)) (M3 : ∀ i, K.Live i → Maps.has D (.string (K.nm i)) = true)
    (hKH : ∀ i, i < K.n → KH W (pb i) (K.L i) (K.Z i) (K.Bt i)) (hinj : ∀ i j, i < K.n → j < K.n → pb i = pb j → i = j) (hL : ∀ i, i < K.n → K.L i ≤ 1048576)
    (hpv : pv = nw.map (fun b => ⟨b, 0, none⟩)) (hnw : ∀ b, nw = some b → ∃ i, i < K.n ∧ b = pb i) :
    Calls Try.prog 27 #[.pointer (some ⟨hb, 0, none⟩), .pointer pv] W fun e w' => ∃ v : Option Nat, e = .returned (.pointer (v.map fun i => ⟨pb i, 0, none⟩)) ∧ Found K pb nw (decide (mx < ev)) (fun _ => false) v ∧ Below W.heap.size W w' := by
  have hs43 := cells43
  have hs55 := cells55
  have hpeq : Hid (∀ (W' : World) (i : Nat), i < K.n → Below W.heap.size W W' → (binOp .eql 45 (.pointer (some ⟨pb i, 0, none⟩)) (.pointer pv)).run Try.prog W' = .ok (.bool (decide (nw = some (pb i)))) W') := by
    intro W' i hi hB
    subst hpv
    cases nw with
    | none =>
      have := run_eql_pointer_nil (P := Try.prog) W' 45 (some ⟨pb i, 0, none⟩) Try.underlying45
      simpa using this
    | some b =>
      obtain ⟨j, hj, rfl⟩ := hnw b rfl
      have := ptr_eql ((hKH i hi).below hB) ((hKH j hj).below hB)
      simp only [Option.map_some, Option.some.injEq]
      rw [this]
      by_cases e : pb i = pb j <;> simp [e, eq_comm]
  have HO : Hid (W.ownsMap Try.prog 9 ptrElem mb K.n D) := hown
  have HM1 : Hid (∀ i, K.Live i → ∀ zd, D.atKey (.string (K.nm i)) zd = .lit (.int .i64 (pb i))) := M1
  have HM2 : Hid (∀ kl, Maps.has D kl = true → ∃ i, K.Live i ∧ kl = .string (K.nm i)) := M2
  have HM3 : Hid (∀ i, K.Live i → Maps.has D (.string (K.nm i)) = true) := M3
  have HKH : Hid (∀ i, i < K.n → KH W (pb i) (K.L i) (K.Z i) (K.Bt i)) := hKH
  have HIN : Hid (∀ i j, i < K.n → j < K.n → pb i = pb j → i = j) := hinj
  have HL : Hid (∀ i, i < K.n → K.L i ≤ 1048576) := hL
  clear hown M1 M2 M3 hKH hinj hL hpv hnw
  go_enter Try.func27, Try.ntmps27
  go_wp2
  go_quiet (fail)
  go_wp2_with (first
    | (at_range; refine wpList_range_own _ rfl _ 41 rfl 9 45 law9 Try.underlying41 _ mb K.n D rfl (show World.ownsMap _ _ _ _ _ _ _ from HO.out) ?_; intro w0 hrg0 hg0 hs0)
    | go_in)
  go_frame
  simp only [World.heap_drewN]
  have HRG0 : Hid (w0.ranges Try.prog 9 ptrElem mb W.heap.size K.n D (Maps.has D) (Maps.size D)) := hrg0
  have HB0 : Hid (Below W.heap.size W w0) := (below_drewN' (Below.refl _ _) nq).grown hg0 (Nat.le_refl _) (by simp)
  clear hrg0 hg0 hs0
  go_loopw [6] (fun v wr => ∃ (left : Lit → Bool) (cnt : Nat) (vo : Option Nat), v = .pointer (vo.map fun i => ⟨pb i, 0, none⟩) ∧ Hid (wr.ranges Try.prog 9 ptrElem mb W.heap.size K.n D left cnt) ∧ Hid (Below W.heap.size W wr) ∧ Hid (∀ kl, left kl = true → Maps.has D kl = true) ∧ Hid (Found K pb nw (decide (mx < ev)) (fun i => left (.string (K.nm i))) vo))
    (fun _ wr => wr.rangeLeft mb W.heap.size)
  case atStart =>
    refine ⟨Maps.has D, _, none, rfl, HRG0, HB0, (fun _ h => h : ∀ kl, Maps.has D kl = true → Maps.has D kl = true), ?_⟩
    exact (fun i hi _ => HM3.out i hi : ∀ i, K.Live i → K.elig pb nw i = true → Maps.has D (.string (K.nm i)) = true)
  case round =>
    obtain ⟨left, cnt, vo, rfl, HRG, HB, HLE, HF⟩ := hrel
    clear HRG0 HB0
    go_wp2_with (first
      | (at_next; refine wpList_next_ranges _ rfl _ rfl 9 law9 ptrElem Value.string (fun c : Option Nat => Value.pointer (c.map fun b => ⟨b, 0, none⟩)) (fun key kl h => keyOf_string_inv h) ptrElem_inv mb W.heap.size K.n D left cnt rfl (show World.ranges _ _ _ _ _ _ _ _ _ _ from HRG.out) ?_ ?_)
      | go_in)
    · intro _ hl0
      have HL0 : Hid (∀ kl, left kl = false) := hl0
      clear hl0
      go_wp2
      go_ret
      refine ⟨vo, rfl, ?_, HB.out⟩
      have e : (fun i => left (.string (K.nm i))) = fun _ => false := by funext i; exact HL0.out _
      have := HF.out
      rw [e] at this
      exact this
    · intro x c kl y1 y2 w1 cnt1 hkey hlk hv hat hrg1 hlt hg1 hs1 hen
      obtain ⟨i, hi, rfl⟩ := HM2.out _ (HLE.out _ hlk)
      have hy : y1 = .lit (.int .i64 (pb i)) := by have h1 := hat .nil; rw [HM1.out i hi] at h1; exact h1.symm
      obtain rfl : c = some (pb i) := by
        cases c with
        | none => simp [ptrElem] at hv; rw [hy] at hv; cases hv.1
        | some b => simp [ptrElem] at hv; rw [hy] at hv; have := hv.1; simp at this; rw [show b = pb i from by omega]
      have HB1 : Hid (Below W.heap.size W w1) := HB.out.grown hg1 HB.out.size (by intro k hk; cases hk; exact Nat.le_refl _)
      have HRG1 : Hid (w1.ranges Try.prog 9 ptrElem mb W.heap.size K.n D (fun z => left z && !z.sameKey (.string (K.nm i))) cnt1) := hrg1
      have HLT : Hid (cnt1 < cnt) := hlt
      have HHI : Hid (K.Live i) := hi
      have hkh := (HKH.out i hi.1).below HB1.out
      have HK : Hid (KH w1 (pb i) (K.L i) (K.Z i) (K.Bt i)) := hkh
      have hLi := HL.out i hi.1
      have hpe := hpeq.out w1 i hi.1 HB1.out
      have hc0 : ∃ e, w1.cell? ⟨pb i, 0, none⟩ = some (.slice (some ⟨e, 0, none⟩) (K.L i) (K.L i)) := by
        obtain ⟨e, s, _, h2⟩ := hkh
        exact ⟨e, h2.cell (i := 0) (by omega)⟩
      obtain ⟨e, hc0⟩ := hc0
      clear hrg1 hg1 hs1 hkey hlk hv hat hy hi hlt hkh
      simp only [Option.map_some] at hen ⊢
      have HFN : ∀ vo', Found K pb nw (decide (mx < ev)) (strike K (fun j => left (.string (K.nm j))) i) vo' → Hid (Found K pb nw (decide (mx < ev)) (fun j => (fun z : Lit => left z && !z.sameKey (.string (K.nm i))) (.string (K.nm j))) vo') := by
        intro vo' h
        rw [← strike_keys] at h
        exact h
      have HFN' : Hid (∀ vo', Found K pb nw (decide (mx < ev)) (strike K (fun j => left (.string (K.nm j))) i) vo' → Hid (Found K pb nw (decide (mx < ev)) (fun j => (fun z : Lit => left z && !z.sameKey (.string (K.nm i))) (.string (K.nm j))) vo')) := HFN
      clear HFN
      have HLE1 : Hid (∀ kl, (fun z : Lit => left z && !z.sameKey (.string (K.nm i))) kl = true → Maps.has D kl = true) := fun kl h => HLE.out kl (by simp only [Bool.and_eq_true] at h; exact h.1)
      have HMS : Hid (w1.rangeLeft mb W.heap.size < wr.rangeLeft mb W.heap.size) := by
        show _ < _
        rw [HRG1.out.left_eq, HRG.out.left_eq]; exact HLT.out
      clear HLE HLT HRG HB
      cases hel : K.elig pb nw i
      · have HF1 := HFN'.out vo (found_skip K pb nw _ _ vo i HHI.out hel HF.out)
        by_cases hz : K.L i = 0
        · have hz' : ((K.L i : Int) == 0) = true := by rw [beq_iff_eq]; omega
          clear hel hz
          go_wp2
          go_roundw
          case rel => exact ⟨_, cnt1, vo, rfl, HRG1, HB1, HLE1, HF1⟩
          case measure => exact HMS.out
        · have hz' : ((K.L i : Int) == 0) = false := by rw [beq_eq_false_iff_ne]; omega
          have hn1 : decide (nw = some (pb i)) = true ∧ K.L i = 1 := by
            unfold Kinds.elig at hel
            rw [Bool.and_eq_false_iff] at hel
            rcases hel with h | h
            · simp at h; exact absurd h hz
            · simp at h; exact ⟨by simp [h.1], h.2⟩
          obtain ⟨hn1, hn2⟩ := hn1
          have hn3 : ((K.L i : Int) == 1) = true := by rw [beq_iff_eq]; omega
          rw [hn1] at hpe
          clear hel hz hn1 hn2
          go_wp2
          go_roundw
          case rel => exact ⟨_, cnt1, vo, rfl, HRG1, HB1, HLE1, HF1⟩
          case measure => exact HMS.out
      · have hz : 0 < K.L i := by
          unfold Kinds.elig at hel
          rw [Bool.and_eq_true] at hel
          exact of_decide_eq_true hel.1
        have hz' : ((K.L i : Int) == 0) = false := by rw [beq_eq_false_iff_ne]; omega
        have hq : decide (nw = some (pb i)) = false ∨ (decide (nw = some (pb i)) = true ∧ ((K.L i : Int) == 1) = false) := by
          unfold Kinds.elig at hel
          rw [Bool.and_eq_true] at hel
          cases hd : decide (nw = some (pb i))
          · exact Or.inl rfl
          · right
            have h2 := hel.2
            rw [hd] at h2
            refine ⟨rfl, ?_⟩
            rw [beq_eq_false_iff_ne]
            simp at h2
            omega
        have HEL : Hid (K.elig pb nw i = true) := hel
        clear hel
        cases vo with
        | none =>
          have HF1 := HFN'.out (some i) (found_first K pb nw _ _ i HHI.out HEL.out HF.out)
          rcases hq with hq | ⟨hq, hq2⟩
          all_goals
            rw [hq] at hpe
            clear hq
            go_wp2
            go_roundw
            case rel => exact ⟨_, cnt1, some i, rfl, HRG1, HB1, HLE1, HF1⟩
            case measure => exact HMS.out
        | some v =>
          have hvl := HF.out.1.1
          have hve := HF.out.2.1
          have hv0 : 0 < K.L v := by
            unfold Kinds.elig at hve
            rw [Bool.and_eq_true] at hve
            exact of_decide_eq_true hve.1
          have HKV : Hid (KH w1 (pb v) (K.L v) (K.Z v) (K.Bt v)) := (HKH.out v hvl).below HB1.out
          have hLv := HL.out v hvl
          have HCALL : Hid (Calls Try.prog 28 #[.pointer (some ⟨pb i, 0, none⟩), .pointer (some ⟨pb v, 0, none⟩), .bool (decide (mx < ev))] w1 fun e w' => e = .returned (.bool (K.beats (decide (mx < ev)) i v)) ∧ ∃ m, w' = w1.drewN m) := outweighs _ _ _ _ _ _ _ _ _ _ HK.out HKV.out hz hv0 hLi hLv
          clear hve
          cases hbt : K.beats (decide (mx < ev)) i v
          · rw [hbt] at HCALL
            have HF1 := HFN'.out (some v) (found_keep K pb nw _ _ v i HHI.out hbt HF.out)
            clear hbt
            rcases hq with hq | ⟨hq, hq2⟩
            all_goals
              rw [hq] at hpe
              clear hq
              go_wp2_with (go_at_call 28; refine HCALL.out.mono ?_; rintro e w2 ⟨rfl, m, rfl⟩)
              go_roundw
              case rel => exact ⟨_, cnt1, some v, rfl, ranges_drewN HRG1.out _, below_drewN' HB1.out _, HLE1, HF1⟩
              case measure => exact HMS.out
          · rw [hbt] at HCALL
            have HF1 := HFN'.out (some i) (found_beat K pb nw _ _ v i HHI.out HEL.out hbt HF.out)
            clear hbt
            rcases hq with hq | ⟨hq, hq2⟩
            all_goals
              rw [hq] at hpe
              clear hq
              go_wp2_with (go_at_call 28; refine HCALL.out.mono ?_; rintro e w2 ⟨rfl, m, rfl⟩)
              go_roundw
              case rel => exact ⟨_, cnt1, some i, rfl, ranges_drewN HRG1.out _, below_drewN' HB1.out _, HLE1, HF1⟩
              case measure => exact HMS.out
end Go.Proofs.Qxb6601359a.Vic
