import Derived.Test.Qxb6601359aNumRun
namespace Go.Proofs.Qxb6601359a.Num
open Go.ChangeShapes Go.WideShapes Go.ChangeAt Go.RowKit
open Go.Proofs.Qxb6601359a.NumPlain
set_option linter.unusedVariables false
set_option linter.unusedSimpArgs false

/-- The memory while 'isNumber' runs: its own two blocks, the position at k. -/
structure Inv (w : World) (s : ByteArray) (k : Nat) (W : World) : Prop where
  grown : Grown w W
  pos : W.cell? ⟨w.heap.size + 1, 0, none⟩ = some (.int .i64 k)
  txt : W.cell? ⟨w.heap.size, 0, none⟩ = some (.string s)
  free : W.frozen? ⟨w.heap.size + 1, 0, none⟩ = false

def hdc (l : List UInt8) (c : Int) : Bool := match l with | x :: _ => (x.toNat : Int) == c | [] => false

theorem inv_next {w W : World} {s : ByteArray} {k : Nat} (h : Inv w s k W) (n : Int) (k' : Nat) (e : n = (k' : Int)) : Inv w s k' (W.setCell ⟨w.heap.size + 1, 0, none⟩ (.int .i64 n)) := by
  subst e
  exact ⟨h.grown.setCell (by show w.heap.size ≤ w.heap.size + 1; omega) _, World.cell?_setCell_same' _ _ _ (by rw [h.pos]; rfl), by rw [cell_far _ _ _ _ (by show w.heap.size + 1 ≠ w.heap.size; omega)]; exact h.txt, by rw [World.frozen?_setCell]; exact h.free⟩

theorem hdc_yes (s : ByteArray) (k : Nat) (c : Int) (h : hdc (s.data.toList.drop k) c = true) : ∃ hk : k < s.size, ((s[k].toNat : Int) == c) = true := by
  by_cases hk : k < s.size
  · refine ⟨hk, ?_⟩
    rw [drop_cons s k hk] at h; exact h
  · rw [List.drop_of_length_le (by simp; omega)] at h; exact absurd h (by simp [hdc])
theorem hdc_at (s : ByteArray) (k : Nat) (c : Int) (hk : k < s.size) : hdc (s.data.toList.drop k) c = ((s[k].toNat : Int) == c) := by
  rw [drop_cons s k hk]; rfl
theorem hdc_end (s : ByteArray) (k : Nat) (c : Int) (hk : ¬ k < s.size) : hdc (s.data.toList.drop k) c = false := by
  rw [List.drop_of_length_le (by simp; omega)]; rfl
theorem frozen_new (w : World) (a : Obj) (c : Array Value) (t : TypeId) : ((w.alloc a).alloc (.cells c t)).frozen? ⟨w.heap.size + 1, 0, none⟩ = false := by
  have e : ((w.alloc a).alloc (.cells c t)).heap[w.heap.size + 1]? = some (.cells c t) := by
    have := (MapKept.heap_alloc (w.alloc a) (.cells c t)).1
    simpa using this
  unfold World.frozen?; simp only [e]; simp


theorem past_run (l : List UInt8) : l.drop (run l) = past l := by
  induction l with
  | nil => rfl
  | cons c t ih =>
    rw [run_cons, past_cons]
    split
    · exact ih
    · rfl
theorem run_le (l : List UInt8) : run l ≤ l.length := by
  induction l with
  | nil => exact Nat.le_refl _
  | cons c t ih => rw [run_cons, List.length_cons]; split <;> omega
theorem drop_run (s : ByteArray) (k : Nat) : s.data.toList.drop (k + run (s.data.toList.drop k)) = past (s.data.toList.drop k) := by
  rw [← past_run, List.drop_drop]
theorem run_size (s : ByteArray) (k : Nat) (h : k ≤ s.size) : k + run (s.data.toList.drop k) ≤ s.size := by
  have := run_le (s.data.toList.drop k)
  rw [List.length_drop] at this
  have e : s.data.toList.length = s.size := rfl
  omega

set_option maxHeartbeats 400000 in
theorem digits_inv (w : World) (s : ByteArray) (hs : s.size ≤ maxLen) (k : Nat) (hk : k ≤ s.size) (W : World) (h : Inv w s k W) :
    Calls Try.prog 29 #[.pointer (some ⟨w.heap.size + 1, 0, none⟩), .pointer (some ⟨w.heap.size, 0, none⟩)] W fun e w' =>
      e = .returned (.int .i64 (run (s.data.toList.drop k))) ∧ Inv w s (k + run (s.data.toList.drop k)) w' :=
  (digits s hs (w.heap.size + 1) w.heap.size (by omega) k hk W h.pos h.txt h.free).mono fun e w' ⟨h1, h2, h3, h4, h5⟩ =>
    ⟨h1, h5 w (by omega) h.grown, by rw [h2]; exact congrArg some (val_int (by omega)), h3, h4⟩

theorem stage1 (l : List UInt8) : p0 l = if hdc l 45 = true then p1 l.tail else p1 l := by
  cases l with
  | nil => rfl
  | cons c t => simp [p0, hdc]
theorem stage2 (l : List UInt8) : p1 l = if hdc l 48 = true then p2 l.tail else (run l != 0 && p2 (past l)) := by
  cases l with
  | nil => rfl
  | cons c t => simp [p1, hdc]
theorem stage3 (l : List UInt8) : p2 l = if hdc l 46 = true then (run l.tail != 0 && p3 (past l.tail)) else p3 l := by
  cases l with
  | nil => rfl
  | cons c t => simp [p2, hdc]
theorem stage4 (l : List UInt8) : p3 l = if (hdc l 101 || hdc l 69) = true then p4 l.tail else l.isEmpty := by
  cases l with
  | nil => rfl
  | cons c t => simp [p3, hdc, isx]
theorem stage5 (l : List UInt8) : p4 l = if (hdc l 43 || hdc l 45) = true then p5 l.tail else p5 l := by
  cases l with
  | nil => rfl
  | cons c t => simp [p4, hdc, isg]
theorem tail_drop (s : ByteArray) (k : Nat) : (s.data.toList.drop k).tail = s.data.toList.drop (k + 1) := by
  rw [List.tail_drop]
theorem hdc_lt (s : ByteArray) (k : Nat) (c : Int) (h : hdc (s.data.toList.drop k) c = true) : k < s.size := (hdc_yes s k c h).1
theorem start_inv (w : World) (s : ByteArray) : Inv w s 0 ((w.alloc (.cells #[.string s] 9)).alloc (.cells #[.int .i64 0] 3)) :=
  ⟨((Grown.refl _).alloc _ _).alloc _ _, by simp [go_sem], by simp [go_sem], frozen_new _ _ _ _⟩
theorem val_bool {a b : Bool} (h : a = b) : Value.bool a = .bool b := by rw [h]

set_option maxRecDepth 100000 in
set_option maxHeartbeats 3200000 in
theorem isNumber (s : ByteArray) (hs : s.size ≤ maxLen) (w : World) :
    Calls Try.prog 24 #[.string s] w fun e w' => e = .returned (.bool (p0 s.data.toList)) ∧ Grown w w' := by
  have hs' := hs
  unfold maxLen at hs'
  go_enter Try.func24, Try.ntmps24
  go_upto_region 3 with fail
  go_cut [15] (fun v wx => v = .bool (hdc (s.data.toList.drop 0) 45) ∧ Inv w s 0 wx)
  case first =>
    by_cases hk : 0 < s.size
    · have HT : Hid (hdc (s.data.toList.drop 0) 45 = ((s[0].toNat : Int) == 45)) := hdc_at s 0 45 hk
      go_wp2
      go_meet
      case rel => exact ⟨val_bool HT.out.symm, start_inv w s⟩
    · have HT : Hid (hdc (s.data.toList.drop 0) 45 = false) := hdc_end s 0 45 hk
      go_wp2
      go_meet
      case rel => exact ⟨val_bool HT.out.symm, start_inv w s⟩
  case rest =>
    obtain ⟨rfl, hI⟩ := hcut
    go_upto_if 15 with fail
    go_cut [] (fun wx => ∃ k, k ≤ s.size ∧ Inv w s k wx ∧ Hid (p0 s.data.toList = p1 (s.data.toList.drop k)))
    case first =>
      have h1 := hI.pos
      have h2 := hI.txt
      have h3 := hI.free
      cases hb : hdc (s.data.toList.drop 0) 45
      · have HP : Hid (p0 s.data.toList = p1 (s.data.toList.drop 0)) := by show _ = _; rw [stage1]; rw [List.drop_zero] at *; rw [hb]; rfl
        go_wp2
        go_meet
        case rel => exact ⟨0, Nat.zero_le _, hI, HP⟩
      · have HP : Hid (p0 s.data.toList = p1 (s.data.toList.drop 1)) := by show _ = _; rw [stage1]; rw [List.drop_zero] at *; rw [hb, ← List.tail_drop, List.drop_zero]; rfl
        have hlt := hdc_lt _ _ _ hb
        go_wp2
        go_meet
        case rel => exact ⟨1, hlt, inv_next hI _ 1 rfl, HP⟩
    case rest =>
      clear hI
      obtain ⟨k, hk, hI, HP⟩ := hcut
      have h1 := hI.pos
      have h2 := hI.txt
      have h3 := hI.free
      go_upto_region 5 with fail
      go_cut [27] (fun v wx => v = .bool (hdc (s.data.toList.drop k) 48) ∧ Inv w s k wx)
      case first =>
        by_cases hk : k < s.size
        · have HT : Hid (hdc (s.data.toList.drop k) 48 = ((s[k].toNat : Int) == 48)) := hdc_at s k 48 hk
          go_wp2
          go_meet
          case rel => exact ⟨val_bool HT.out.symm, hI⟩
        · have HT : Hid (hdc (s.data.toList.drop k) 48 = false) := hdc_end s k 48 hk
          go_wp2
          go_meet
          case rel => exact ⟨val_bool HT.out.symm, hI⟩
      case rest =>
        clear hI h1 h2 h3
        obtain ⟨rfl, hI⟩ := hcut
        go_upto_if 27 with fail
        go_cut [] (fun wx => ∃ k, k ≤ s.size ∧ Inv w s k wx ∧ Hid (p0 s.data.toList = p2 (s.data.toList.drop k)))
        case first =>
          have h1 := hI.pos
          have h2 := hI.txt
          have h3 := hI.free
          cases hb : hdc (s.data.toList.drop k) 48
          · have hrs := run_size s k hk
            cases hr : (((run (s.data.toList.drop k) : Nat) : Int) == 0)
            · have HP' : Hid (p0 s.data.toList = p2 (s.data.toList.drop (k + run (s.data.toList.drop k)))) := by
                show _ = _
                rw [HP.out, stage2, hb, drop_run]
                rw [beq_eq_false_iff_ne] at hr
                have : (run (s.data.toList.drop k) != 0) = true := by rw [bne_iff_ne]; omega
                rw [this]; rfl
              go_wp2_with (go_at_call 29; refine (digits_inv w s hs k hk _ hI).mono ?_; rintro e w1 ⟨rfl, hI1⟩)
              go_meet
              case rel => exact ⟨_, hrs, by assumption, HP'⟩
            · have HP' : Hid (p0 s.data.toList = false) := by
                show _ = _
                rw [HP.out, stage2, hb]
                rw [beq_iff_eq] at hr
                have : (run (s.data.toList.drop k) != 0) = false := by rw [bne_eq_false_iff_eq]; omega
                rw [this]; rfl
              go_wp2_with (go_at_call 29; refine (digits_inv w s hs k hk _ hI).mono ?_; rintro e w1 ⟨rfl, hI1⟩)
              go_ret
              exact ⟨ret_bool HP'.out.symm, hI1.grown⟩
          · have HP' : Hid (p0 s.data.toList = p2 (s.data.toList.drop (k + 1))) := by show _ = _; rw [HP.out, stage2, hb, ← List.tail_drop]; rfl
            have hlt := hdc_lt _ _ _ hb
            go_wp2
            go_meet
            case rel => exact ⟨k + 1, hlt, inv_next hI _ (k + 1) (by omega), HP'⟩
        case rest =>
          clear hI HP hk
          obtain ⟨k, hk, hI, HP⟩ := hcut
          have h1 := hI.pos
          have h2 := hI.txt
          have h3 := hI.free
          go_upto_region 9 with fail
          go_cut [42] (fun v wx => v = .bool (hdc (s.data.toList.drop k) 46) ∧ Inv w s k wx)
          case first =>
            by_cases hk : k < s.size
            · have HT : Hid (hdc (s.data.toList.drop k) 46 = ((s[k].toNat : Int) == 46)) := hdc_at s k 46 hk
              go_wp2
              go_meet
              case rel => exact ⟨val_bool HT.out.symm, hI⟩
            · have HT : Hid (hdc (s.data.toList.drop k) 46 = false) := hdc_end s k 46 hk
              go_wp2
              go_meet
              case rel => exact ⟨val_bool HT.out.symm, hI⟩
          case rest =>
            clear hI h1 h2 h3
            obtain ⟨rfl, hI⟩ := hcut
            go_upto_if 42 with fail
            go_cut [] (fun wx => ∃ k, k ≤ s.size ∧ Inv w s k wx ∧ Hid (p0 s.data.toList = p3 (s.data.toList.drop k)))
            case first =>
              have h1 := hI.pos
              have h2 := hI.txt
              have h3 := hI.free
              cases hb : hdc (s.data.toList.drop k) 46
              · have HP' : Hid (p0 s.data.toList = p3 (s.data.toList.drop k)) := by show _ = _; rw [HP.out, stage3, hb]; rfl
                go_wp2
                go_meet
                case rel => exact ⟨k, hk, hI, HP'⟩
              · have hlt := hdc_lt _ _ _ hb
                have hrs := run_size s (k + 1) hlt
                have hI2 := inv_next hI ((k : Int) + 1) (k + 1) (by omega)
                cases hr : (((run (s.data.toList.drop (k + 1)) : Nat) : Int) == 0)
                · have HP' : Hid (p0 s.data.toList = p3 (s.data.toList.drop (k + 1 + run (s.data.toList.drop (k + 1))))) := by
                    show _ = _
                    rw [HP.out, stage3, hb, drop_run, tail_drop]
                    rw [beq_eq_false_iff_ne] at hr
                    have : (run (s.data.toList.drop (k + 1)) != 0) = true := by rw [bne_iff_ne]; omega
                    rw [this]; rfl
                  go_wp2_with (go_at_call 29; refine (digits_inv w s hs (k + 1) hlt _ hI2).mono ?_; rintro e w1 ⟨rfl, hI1⟩)
                  go_meet
                  case rel => exact ⟨_, hrs, by assumption, HP'⟩
                · have HP' : Hid (p0 s.data.toList = false) := by
                    show _ = _
                    rw [HP.out, stage3, hb, tail_drop]
                    rw [beq_iff_eq] at hr
                    have : (run (s.data.toList.drop (k + 1)) != 0) = false := by rw [bne_eq_false_iff_eq]; omega
                    rw [this]; rfl
                  go_wp2_with (go_at_call 29; refine (digits_inv w s hs (k + 1) hlt _ hI2).mono ?_; rintro e w1 ⟨rfl, hI1⟩)
                  go_ret
                  exact ⟨ret_bool HP'.out.symm, hI1.grown⟩
            case rest =>
              clear hI HP hk
              obtain ⟨k, hk, hI, HP⟩ := hcut
              have h1 := hI.pos
              have h2 := hI.txt
              have h3 := hI.free
              go_upto_region 13 with fail
              go_cut [63] (fun v wx => v = .bool (hdc (s.data.toList.drop k) 101 || hdc (s.data.toList.drop k) 69) ∧ Inv w s k wx)
              case first =>
                by_cases hk : k < s.size
                · have HT : Hid (hdc (s.data.toList.drop k) 101 = ((s[k].toNat : Int) == 101)) := hdc_at s k 101 hk
                  have HT2 : Hid (hdc (s.data.toList.drop k) 69 = ((s[k].toNat : Int) == 69)) := hdc_at s k 69 hk
                  cases hx : ((s[k].toNat : Int) == 101)
                  · go_wp2
                    go_meet
                    case rel => exact ⟨val_bool (by rw [HT.out, HT2.out, hx, Bool.false_or]), hI⟩
                  · go_wp2
                    go_meet
                    case rel => exact ⟨val_bool (by rw [HT.out, hx, Bool.true_or]), hI⟩
                · have HT : Hid (hdc (s.data.toList.drop k) 101 = false) := hdc_end s k 101 hk
                  have HT2 : Hid (hdc (s.data.toList.drop k) 69 = false) := hdc_end s k 69 hk
                  go_wp2
                  go_meet
                  case rel => exact ⟨val_bool (by rw [HT.out, HT2.out]; rfl), hI⟩
              case rest =>
                clear hI h1 h2 h3
                obtain ⟨rfl, hI⟩ := hcut
                go_upto_if 63 with fail
                go_cut [] (fun wx => ∃ k, k ≤ s.size ∧ Inv w s k wx ∧ Hid (p0 s.data.toList = (s.data.toList.drop k).isEmpty))
                case first =>
                  have h1 := hI.pos
                  have h2 := hI.txt
                  have h3 := hI.free
                  cases hb : (hdc (s.data.toList.drop k) 101 || hdc (s.data.toList.drop k) 69)
                  · have HP' : Hid (p0 s.data.toList = (s.data.toList.drop k).isEmpty) := by show _ = _; rw [HP.out, stage4, hb]; rfl
                    clear HP
                    go_wp2
                    go_meet
                    case rel => exact ⟨k, hk, hI, HP'⟩
                  · have hlt : k + 1 ≤ s.size := by
                      rw [Bool.or_eq_true] at hb
                      rcases hb with hb | hb
                      · exact hdc_lt _ _ _ hb
                      · exact hdc_lt _ _ _ hb
                    have HP4 : Hid (p0 s.data.toList = p4 (s.data.toList.drop (k + 1))) := by show _ = _; rw [HP.out, stage4, hb, tail_drop]; rfl
                    have hI2 := inv_next hI ((k : Int) + 1) (k + 1) (by omega)
                    clear HP
                    go_upto_region 15 with fail
                    generalize hj : k + 1 = j at *
                    have h1' := hI2.pos
                    have h2' := hI2.txt
                    have h3' := hI2.free
                    have hje : ((k : Int) + 1) = (j : Int) := by omega
                    clear h1 h2 h3 hj hI hb hk
                    rw [hje] at hI2 h1' h2' h3' ⊢
                    clear hje
                    generalize wc.setCell ⟨w.heap.size + 1, 0, none⟩ (.int .i64 (j : Int)) = W2 at hI2 h1' h2' h3' ⊢
                    go_cut [81] (fun v wx => v = .bool (hdc (s.data.toList.drop j) 43 || hdc (s.data.toList.drop j) 45) ∧ Inv w s j wx)
                    case first =>
                      by_cases hk : j < s.size
                      · have HT : Hid (hdc (s.data.toList.drop j) 43 = ((s[j].toNat : Int) == 43)) := hdc_at s j 43 hk
                        have HT2 : Hid (hdc (s.data.toList.drop j) 45 = ((s[j].toNat : Int) == 45)) := hdc_at s j 45 hk
                        cases hx : ((s[j].toNat : Int) == 43)
                        · go_wp2
                          go_meet
                          case rel => exact ⟨val_bool (by rw [HT.out, HT2.out, hx, Bool.false_or]), hI2⟩
                        · go_wp2
                          go_meet
                          case rel => exact ⟨val_bool (by rw [HT.out, hx, Bool.true_or]), hI2⟩
                      · have HT : Hid (hdc (s.data.toList.drop j) 43 = false) := hdc_end s j 43 hk
                        have HT2 : Hid (hdc (s.data.toList.drop j) 45 = false) := hdc_end s j 45 hk
                        go_wp2
                        go_meet
                        case rel => exact ⟨val_bool (by rw [HT.out, HT2.out]; rfl), hI2⟩
                    case rest =>
                      clear hI2 h1' h2' h3'
                      obtain ⟨rfl, hI⟩ := hcut
                      go_upto_if 81 with fail
                      go_cut [] (fun wx => ∃ k, k ≤ s.size ∧ Inv w s k wx ∧ Hid (p0 s.data.toList = p5 (s.data.toList.drop k)))
                      case first =>
                        have h1 := hI.pos
                        have h2 := hI.txt
                        have h3 := hI.free
                        cases hb : (hdc (s.data.toList.drop j) 43 || hdc (s.data.toList.drop j) 45)
                        · have HP' : Hid (p0 s.data.toList = p5 (s.data.toList.drop j)) := by show _ = _; rw [HP4.out, stage5, hb]; rfl
                          clear HP4
                          go_wp2
                          go_meet
                          case rel => exact ⟨j, hlt, hI, HP'⟩
                        · have hlt2 : j + 1 ≤ s.size := by
                            rw [Bool.or_eq_true] at hb
                            rcases hb with hb | hb
                            · exact hdc_lt _ _ _ hb
                            · exact hdc_lt _ _ _ hb
                          have HP' : Hid (p0 s.data.toList = p5 (s.data.toList.drop (j + 1))) := by show _ = _; rw [HP4.out, stage5, hb, tail_drop]; rfl
                          clear HP4
                          go_wp2
                          go_meet
                          case rel => exact ⟨j + 1, hlt2, inv_next hI _ (j + 1) (by omega), HP'⟩
                      case rest =>
                        clear hI HP4 hlt
                        obtain ⟨k, hk, hI, HP⟩ := hcut
                        have hrs := run_size s k hk
                        cases hr : (((run (s.data.toList.drop k) : Nat) : Int) == 0)
                        · have HP' : Hid (p0 s.data.toList = (s.data.toList.drop (k + run (s.data.toList.drop k))).isEmpty) := by
                            show _ = _
                            rw [HP.out, p5, drop_run]
                            rw [beq_eq_false_iff_ne] at hr
                            have : (run (s.data.toList.drop k) != 0) = true := by rw [bne_iff_ne]; omega
                            rw [this]; rfl
                          go_wp2_with (go_at_call 29; refine (digits_inv w s hs k hk _ hI).mono ?_; rintro e w1 ⟨rfl, hI1⟩)
                          go_meet
                          case rel => exact ⟨_, hrs, by assumption, HP'⟩
                        · have HP' : Hid (p0 s.data.toList = false) := by
                            show _ = _
                            rw [HP.out, p5]
                            rw [beq_iff_eq] at hr
                            have : (run (s.data.toList.drop k) != 0) = false := by rw [bne_eq_false_iff_eq]; omega
                            rw [this]; rfl
                          go_wp2_with (go_at_call 29; refine (digits_inv w s hs k hk _ hI).mono ?_; rintro e w1 ⟨rfl, hI1⟩)
                          go_ret
                          exact ⟨ret_bool HP'.out.symm, hI1.grown⟩
                case rest =>
                  clear hI HP hk
                  obtain ⟨k, hk, hI, HP⟩ := hcut
                  have h1 := hI.pos
                  have h2 := hI.txt
                  have h3 := hI.free
                  go_wp2
                  go_ret
                  refine ⟨ret_bool ?_, hI.grown⟩
                  rw [HP.out]
                  have e : s.data.toList.length = s.size := rfl
                  rw [Bool.eq_iff_iff, List.isEmpty_iff, List.drop_eq_nil_iff, e, beq_iff_eq]
                  omega
end Go.Proofs.Qxb6601359a.Num
