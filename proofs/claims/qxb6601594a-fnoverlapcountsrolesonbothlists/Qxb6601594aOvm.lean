import Derived.Test.Qxb6601594aOvs
namespace Go.Proofs.Qxb6601594a.Mem
open Go.ChangeShapes Go.WideShapes Go.ChangeAt Go.RowKit Go.Maps
open Go.Proofs.Qxb6601594a.Plain Go.Proofs.Qxb6601594a.Map
set_option linter.unusedVariables false
set_option linter.unusedSimpArgs false
section
variable {N n : Nat} {ms es : Addr} {mb : Nat → Nat} {fk fl : Value → Option Value} {lv : Nat → ByteArray → Option ByteArray} {t : Int} {oc : Nat} {fo : Value → Option Value}

set_option maxRecDepth 20000 in
set_option maxHeartbeats 1600000 in
theorem overlapMain [DecidableEq Value] (k1 : Int) (a b : ByteArray) (k2 : Int) (c d : ByteArray) (W : World) (h : Idx W N n ms es mb fk fl lv t 0 fo) (hfo : fo (.agg #[.int .i64 k1, .string a, .string b, .int .i64 k2, .string c, .string d]) = none)
    (hk1 : (Lit.int .i64 k1).wf = true) (hk2 : (Lit.int .i64 k2).wf = true) (ha : a.size ≤ 9223372036854775807) (hb : b.size ≤ 9223372036854775807) (hc : c.size ≤ 9223372036854775807) (hd : d.size ≤ 9223372036854775807)
    (hne : a ≠ c) (k11 : k1 ≠ 1) (hn : n ≤ 1048576) (ht0 : 0 ≤ t) (ht1 : t ≤ 1073741824) :
    Calls Try.prog 21 #[.pointer (some ⟨N + 3, 0, none⟩), .agg #[.int .i64 k1, .string a, .string b], .agg #[.int .i64 k2, .string c, .string d]] W fun e w' =>
      e = .returned (.int .i64 (cnt (fun i => onP k1 b (lv i a) && onP k2 d (lv i c)) n)) ∧
      Idx w' N n ms es mb fk fl lv (t + min (cnt (fun i => onP k1 b (lv i a)) n) (cnt (fun i => onP k2 d (lv i c)) n)) 1 (upd fo (.agg #[.int .i64 k1, .string a, .string b, .int .i64 k2, .string c, .string d]) (.int .i64 (cnt (fun i => onP k1 b (lv i a) && onP k2 d (lv i c)) n))) ∧ Below N W w' := by
  have hs53 := cells53
  have hs51 := cells51
  have hbe : (a.toList == c.toList) = false := by rw [bytes_beq]; exact decide_eq_false hne
  have hB : Below W.heap.size W ((W.alloc (.cells #[.int .i64 k1, .string a, .string b] 53)).alloc (.cells #[.int .i64 k2, .string c, .string d] 53)) := ((Below.refl _ _).alloc (Nat.le_refl _) _).alloc (by simp) _
  have h1 := h.below hB
  have c4 := h1.c4
  have hlook := fun q => (h1.ov.same (w' := World.drewN _ q) (by rw [World.heap_drewN])).look_ok K60 Try.underlying57 (zero3 _) (key60 hk1 hk2 ha hb hc hd)
  rw [hfo] at hlook
  simp only [Option.getD_none, Option.isSome_none] at hlook
  have HI : Hid (Idx ((W.alloc (.cells #[.int .i64 k1, .string a, .string b] 53)).alloc (.cells #[.int .i64 k2, .string c, .string d] 53)) N n ms es mb fk fl lv t 0 fo) := h1
  have HI0 : Hid (Idx W N n ms es mb fk fl lv t 0 fo) := h
  clear h hne h1
  go_enter Try.func21, Try.ntmps21
  go_upto_block 0 with fail
  go_cut [14] (fun _ wx => wx = ((W.alloc (.cells #[.int .i64 k1, .string a, .string b] 53)).alloc (.cells #[.int .i64 k2, .string c, .string d] 53)))
  case first =>
    clear hlook c4 HI HI0
    by_cases k12 : k1 = 2
    · subst k12
      go_wp2
      go_meet
      case rel => rfl
    · go_wp2
      go_meet
      case rel => rfl
  case rest =>
    subst hcut
    go_wp2_with fail
    go_quiet (fail)
    go_wp2_with fail
    go_cut [9, 10] (fun p q wx => ∃ g1 g2, p = .pointer (some ⟨g1, 0, none⟩) ∧ q = .pointer (some ⟨g2, 0, none⟩) ∧ Hid (g1 ≠ g2 ∧ W.heap.size + 2 ≤ g1 ∧ W.heap.size + 2 ≤ g2 ∧ RL wx W.heap.size k1 a b ∧ RL wx (W.heap.size + 1) k2 c d ∧ RL wx g1 k1 a b ∧ RL wx g2 k2 c d ∧ Below W.heap.size W wx))
    case first =>
      go_region
      · go_wp2_with fail
        go_meet
        case rel =>
          refine ⟨_, _, rfl, rfl, ?_⟩
          show _ ∧ _
          have b1 := RL.new W k1 a b rfl
          have b2 := RL.new (W.alloc (.cells #[.int .i64 k1, .string a, .string b] 53)) k2 c d (g := W.heap.size + 1) (by simp)
          refine ⟨by omega, by omega, by omega, (((b1.alloc _).drewN _).alloc _).alloc _, ((b2.drewN _).alloc _).alloc _, (RL.new _ k1 a b (by simp)).alloc _, RL.new _ k2 c d (by simp), ?_⟩
          exact (below_drewN' hB _).alloc (by simp; omega) _ |>.alloc (by simp; omega) _
      · go_wp2_with fail
        go_meet
        case rel =>
          refine ⟨_, _, rfl, rfl, ?_⟩
          show _ ∧ _
          have b1 := RL.new W k1 a b rfl
          have b2 := RL.new (W.alloc (.cells #[.int .i64 k1, .string a, .string b] 53)) k2 c d (g := W.heap.size + 1) (by simp)
          refine ⟨by omega, by omega, by omega, (((b1.alloc _).drewN _).alloc _).alloc _, ((b2.drewN _).alloc _).alloc _, RL.new _ k1 a b (by simp), (RL.new _ k2 c d (by simp)).alloc _, ?_⟩
          exact (below_drewN' hB _).alloc (by simp; omega) _ |>.alloc (by simp; omega) _
    case rest =>
      obtain ⟨g1, g2, rfl, rfl, HX⟩ := hcut
      have HS : Hid (St W wc g1 g2 k1 a b k2 c d k1 a b k2 c d) := by
        obtain ⟨e1, e2, e3, e4, e5, e6, e7, e8⟩ := HX.out
        exact ⟨e1, e2, e3, e4, e5, e6, e7, e8⟩
      clear HX c4 hlook HI hB
      have HC : Hid (∀ (w : World) (kd : Int) (ky vl : ByteArray), St W w g1 g2 k1 a b k2 c d k1 a b k2 c d → ky.size ≤ 9223372036854775807 → vl.size ≤ 9223372036854775807 → Calls Try.prog 24 #[.pointer (some ⟨N + 3, 0, none⟩), .agg #[.int .i64 kd, .string ky, .string vl]] w fun e w' =>
        (∃ x cap, e = .returned (.slice x (cnt (fun i => onP kd vl (lv i ky)) n) cap)) ∧ Hid (St W w' g1 g2 k1 a b k2 c d k1 a b k2 c d) ∧ Six w' W.heap.size k1 a b k2 c d) := fun w kd ky vl h1 h2 h3 => placesSt HI0.out h1 kd ky vl h2 h3
      have HS1 : Hid (St W wc.drew g1 g2 k1 a b k2 c d k1 a b k2 c d) := HS.out.same (Below.refl _ _).drew
      obtain ⟨s1, s2, s3, s4, s5, s6⟩ := HS.out.six
      go_wp2_with fail
      go_cut [9, 10, 81] (fun p q r wx => p = .pointer (some ⟨g1, 0, none⟩) ∧ q = .pointer (some ⟨g2, 0, none⟩) ∧ r = .bool (decide (cnt (fun i => onP k2 d (lv i c)) n < cnt (fun i => onP k1 b (lv i a)) n)) ∧ Hid (St W wx g1 g2 k1 a b k2 c d k1 a b k2 c d))
      case first =>
        go_region_held3 (fun w' => w'.cell? ⟨W.heap.size, 0, none⟩ = some (.int .i64 k1) ∧ w'.cell? ⟨W.heap.size, 1, none⟩ = some (.string a) ∧ w'.cell? ⟨W.heap.size, 2, none⟩ = some (.string b) ∧
  w'.cell? ⟨W.heap.size + 1, 0, none⟩ = some (.int .i64 k2) ∧ w'.cell? ⟨W.heap.size + 1, 1, none⟩ = some (.string c) ∧ w'.cell? ⟨W.heap.size + 1, 2, none⟩ = some (.string d) ∧ Hid (St W w' g1 g2 k1 a b k2 c d k1 a b k2 c d)) (go_keep)
          (first | (go_at_call 24; refine (HC.out _ _ _ _ (show St _ _ _ _ _ _ _ _ _ _ _ _ _ _ _ _ from Hid.out (by assumption)) (by assumption) (by assumption)).mono ?_; rintro e w1 ⟨⟨x, cap, rfl⟩, hS, hx1, hx2, hx3, hx4, hx5, hx6⟩))
        go_wp2_with fail
        go_meet
        case rel => exact ⟨rfl, rfl, rfl, hS⟩
      case rest =>
        obtain ⟨rfl, rfl, rfl, HS2⟩ := hcut
        clear HS1 HS s1 s2 s3 s4 s5 s6 HC
        go_upto_if 81 with fail
        go_cut [9, 10] (fun p q wx => p = .pointer (some ⟨g1, 0, none⟩) ∧ q = .pointer (some ⟨g2, 0, none⟩) ∧ ∃ k3 a3 b3 k4 c4 d4, Hid (St W wx g1 g2 k1 a b k2 c d k3 a3 b3 k4 c4 d4) ∧ Hid (Sh lv n k1 a b k2 c d k3 a3 b3 k4 c4 d4))
        case first =>
          by_cases hlt : cnt (fun i => onP k2 d (lv i c)) n < cnt (fun i => onP k1 b (lv i a)) n
          · have HSh : Hid (Sh lv n k1 a b k2 c d k2 c d k1 a b) := Sh.swap ha hb hc hd hlt
            obtain ⟨s1, s2, s3, s4, s5, s6⟩ := HS2.out.six
            obtain ⟨f1, f2, f3, fz1⟩ := HS2.out.r3
            obtain ⟨f4, f5, f6, fz2⟩ := HS2.out.r4
            have n1 : g1 ≠ g2 := HS2.out.ne
            have n2 : g2 ≠ g1 := Ne.symm n1
            have n3 : W.heap.size ≠ g1 := by have := HS2.out.lo1; omega
            have n4 : W.heap.size ≠ g2 := by have := HS2.out.lo2; omega
            have n5 : W.heap.size + 1 ≠ g1 := by have := HS2.out.lo1; omega
            have n6 : W.heap.size + 1 ≠ g2 := by have := HS2.out.lo2; omega
            have n3' := Ne.symm n3
            have n4' := Ne.symm n4
            have n5' := Ne.symm n5
            have n6' := Ne.symm n6
            clear HI0
            go_wp2_with fail
            go_region
            go_wp2_with fail
            go_meet
            case rel => exact ⟨rfl, rfl, _, _, _, _, _, _, HS2.out.swap, HSh⟩
          · have HSh : Hid (Sh lv n k1 a b k2 c d k1 a b k2 c d) := Sh.keep ha hb hc hd hlt
            go_wp2_with fail
            go_meet
            case rel => exact ⟨rfl, rfl, _, _, _, _, _, _, HS2, HSh⟩
        case rest =>
          obtain ⟨rfl, rfl, k3, a3, b3, k4, c4, d4, HS3, HSh⟩ := hcut
          clear HS2
          obtain ⟨f1, f2, f3, fz1⟩ := HS3.out.r3
          clear fz1
          have HC : Hid (Calls Try.prog 24 #[.pointer (some ⟨N + 3, 0, none⟩), .agg #[.int .i64 k3, .string a3, .string b3]] wc fun e w' =>
            (∃ x cap, e = .returned (.slice x (pls (fun i => onP k3 b3 (lv i a3)) n).length cap) ∧ Hid (∀ j (h : j < (pls (fun i => onP k3 b3 (lv i a3)) n).length), ∃ y, x = some y ∧ y.block < N ∧ W.cell? (y.add j) = some (.int .i64 ((pls (fun i => onP k3 b3 (lv i a3)) n)[j] : Nat)))) ∧ Hid (St W w' g1 g2 k1 a b k2 c d k3 a3 b3 k4 c4 d4)) := by
            refine (places24 k3 a3 b3 wc (HS3.out.idx HI0.out) HSh.out.sa HSh.out.sb).mono ?_
            rintro e w' ⟨⟨v, rfl, x, cap, rfl, hp⟩, hb⟩
            refine ⟨⟨x, cap, rfl, fun j hj => ?_⟩, HS3.out.same hb⟩
            obtain ⟨y, e1, e2, e3⟩ := hp j hj
            exact ⟨y, e1, e2, by rw [← HS3.out.bl.cell (Nat.lt_of_lt_of_le (by rw [add_block]; exact e2) (Nat.le_trans (by omega) HI0.out.lt))]; exact e3⟩
          go_wp2_with (go_at_call 24; refine HC.out.mono ?_; rintro e w1 ⟨⟨x, cap, rfl, HP⟩, HS4⟩)
          have HM : Hid (∀ v, v ∈ pls (fun i => onP k3 b3 (lv i a3)) n → v < n) := fun v hv => (pls_mem _ n v hv).1
          have hPn : (pls (fun i => onP k3 b3 (lv i a3)) n).length ≤ n := by rw [pls_length]; exact cnt_le _ _
          have HL : Hid ((pls (fun i => onP k3 b3 (lv i a3)) n).length = min (cnt (fun i => onP k1 b (lv i a)) n) (cnt (fun i => onP k2 d (lv i c)) n)) := by rw [pls_length]; exact HSh.out.less
          have HT : Hid (cntL (fun i => onP k4 d4 (lv i c4)) (pls (fun i => onP k3 b3 (lv i a3)) n) = cnt (fun i => onP k1 b (lv i a) && onP k2 d (lv i c)) n) := by rw [cntL_pls]; exact HSh.out.both
          clear HC HS3 f1 f2 f3
          generalize pls (fun i => onP k3 b3 (lv i a3)) n = P at HP HM hPn HL HT ⊢
          have hHn : ∀ (j : Nat) (h : j < P.length), cntL (fun i => onP k4 d4 (lv i c4)) (P.take (j + 1)) = cntL (fun i => onP k4 d4 (lv i c4)) (P.take j) + if onP k4 d4 (lv P[j] c4) then 1 else 0 := by
            intro j h
            rw [List.take_add_one, cntL_append, List.getElem?_eq_getElem h]
            simp [cntL]
          have HN : Hid (∀ (j : Nat) (h : j < P.length), cntL (fun i => onP k4 d4 (lv i c4)) (P.take (j + 1)) = cntL (fun i => onP k4 d4 (lv i c4)) (P.take j) + if onP k4 d4 (lv P[j] c4) then 1 else 0) := hHn
          clear hHn
          go_loopw [11, 13, 88] (fun m u i wr => ∃ j : Nat, j ≤ P.length ∧ i = .int .i64 j ∧ m = .int .i64 (cntL (fun i => onP k4 d4 (lv i c4)) (P.take j)) ∧ Hid (St W wr g1 g2 k1 a b k2 c d k3 a3 b3 k4 c4 d4)) (fun _ _ i _ => P.length - (intOf i).toNat)
          case atStart => exact ⟨0, Nat.zero_le _, rfl, rfl, HS4⟩
          case round =>
            obtain ⟨j, hj, rfl, rfl, HS5⟩ := hrel
            have hcl : cntL (fun i => onP k4 d4 (lv i c4)) (P.take j) ≤ n := by
              have := cntL_le (fun i => onP k4 d4 (lv i c4)) (P.take j)
              have e : (P.take j).length ≤ P.length := by rw [List.length_take]; omega
              omega
            by_cases hlt : j < P.length
            · obtain ⟨y, rfl, hyN, hcell⟩ := HP.out j hlt
              have hc1 : wr.cell? (y.add j) = some (.int .i64 (P[j] : Nat)) := by rw [HS5.out.bl.cell (lt_of_cell hcell)]; exact hcell
              have hv := HM.out _ (List.getElem_mem hlt)
              have hn1 := HN.out j hlt
              have HO : Hid (Calls Try.prog 25 #[.pointer (some ⟨N + 3, 0, none⟩), .agg #[.int .i64 k4, .string c4, .string d4], .int .i64 (P[j] : Nat)] wr fun e w' => e = .returned (.bool (onP k4 d4 (lv P[j] c4))) ∧ Hid (St W w' g1 g2 k1 a b k2 c d k3 a3 b3 k4 c4 d4)) := by
                refine (on25 k4 c4 d4 P[j] wr (HS5.out.idx HI0.out) HSh.out.sc hv hn).mono ?_
                rintro e w' ⟨rfl, hb⟩
                exact ⟨rfl, HS5.out.same hb⟩
              clear hcell hyN HP HM HN HL HT
              obtain ⟨f4, f5, f6, fz2⟩ := HS5.out.r4
              clear fz2
              generalize P[j] = v at hc1 hv hn1 HO
              cases hq : onP k4 d4 (lv v c4)
              · rw [hq] at hn1 HO
                clear hq
                simp only [Bool.false_eq_true, if_false, Nat.add_zero] at hn1
                have HN1 : Hid (cntL (fun i => onP k4 d4 (lv i c4)) (P.take (j + 1)) = cntL (fun i => onP k4 d4 (lv i c4)) (P.take j)) := hn1
                clear hn1
                go_wp2_with (go_at_call 25; refine HO.out.mono ?_; rintro e w2 ⟨rfl, HS6⟩)
                go_roundw
                case rel => exact ⟨j + 1, by omega, by go_num, by rw [HN1.out], HS6⟩
                case measure => simp [intOf]; omega
              · rw [hq] at hn1 HO
                clear hq
                simp only [if_true] at hn1
                have HN1 : Hid (cntL (fun i => onP k4 d4 (lv i c4)) (P.take (j + 1)) = cntL (fun i => onP k4 d4 (lv i c4)) (P.take j) + 1) := hn1
                clear hn1
                go_wp2_with (go_at_call 25; refine HO.out.mono ?_; rintro e w2 ⟨rfl, HS6⟩)
                go_roundw
                case rel => exact ⟨j + 1, by omega, by go_num, by rw [HN1.out]; go_num, HS6⟩
                case measure => simp [intOf]; omega
            · obtain rfl : j = P.length := by omega
              rw [List.take_length] at hcl ⊢
              clear HP HM HN
              obtain ⟨f1, f2, f3, fz1⟩ := HS5.out.r3
              have c5 := (HS5.out.idx HI0.out).c5
              have z5 := (HS5.out.idx HI0.out).fz 5
              have HD : Hid (St W wr.drew g1 g2 k1 a b k2 c d k3 a3 b3 k4 c4 d4) := HS5.out.same (Below.refl _ _).drew
              have HC : Hid (∀ w : World, St W w g1 g2 k1 a b k2 c d k3 a3 b3 k4 c4 d4 → Calls Try.prog 24 #[.pointer (some ⟨N + 3, 0, none⟩), .agg #[.int .i64 k3, .string a3, .string b3]] w fun e w' =>
                (∃ x cap, e = .returned (.slice x P.length cap)) ∧ Hid (St W w' g1 g2 k1 a b k2 c d k3 a3 b3 k4 c4 d4) ∧ w'.cell? ⟨N + 3, 5, none⟩ = some (.int .i64 t) ∧ w'.frozen? ⟨N + 3, 5, none⟩ = false ∧ w'.cell? ⟨g1, 0, none⟩ = some (.int .i64 k3) ∧ w'.cell? ⟨g1, 1, none⟩ = some (.string a3) ∧ w'.cell? ⟨g1, 2, none⟩ = some (.string b3)) := by
                intro w hS
                refine (placesSt HI0.out hS k3 a3 b3 HSh.out.sa HSh.out.sb).mono ?_
                rintro e w' ⟨⟨x, cap, rfl⟩, h2, _⟩
                exact ⟨⟨x, cap, by rw [HSh.out.less, HL.out]⟩, h2, (h2.out.idx HI0.out).c5, (h2.out.idx HI0.out).fz 5, h2.out.r3.1, h2.out.r3.2.1, h2.out.r3.2.2.1⟩
              have hw : IntKind.i64.wrap (t + (P.length : Int)) = t + (P.length : Int) := IntWalk.i64_in _ (by omega)
              go_wp2_with fail
              go_cut [11] (fun m wx => m = .int .i64 (cntL (fun i => onP k4 d4 (lv i c4)) P) ∧ Hid (Fin W wx N n ms es mb fk fl lv (t + P.length) fo k1 a b k2 c d))
              case first =>
                go_region_with (first | (go_at_call 24; refine (HC.out _ (show St _ _ _ _ _ _ _ _ _ _ _ _ _ _ _ _ from Hid.out (by assumption))).mono ?_; rintro e w1 ⟨⟨x, cap, rfl⟩, hS, hx1, hx2, hx3, hx4, hx5⟩))
                all_goals go_wp2_with fail
                all_goals go_meet
                all_goals exact ⟨rfl, hS.out.fin HI0.out _⟩
              case rest =>
                obtain ⟨rfl, HF⟩ := hcut
                rw [HT.out]
                have hN4 := HI0.out.lt
                obtain ⟨w3, hrun, hI3, hB3, y1, y2, y3, y4, y5, y6⟩ := HF.out.drew.store hk1 hk2 ha hb hc hd hfo hN4 (.int .i64 (cnt (fun i => onP k1 b (lv i a) && onP k2 d (lv i c)) n))
                have y7 := hI3.c4
                have HP3 : Hid (Idx w3 N n ms es mb fk fl lv (t + min (cnt (fun i => onP k1 b (lv i a)) n) (cnt (fun i => onP k2 d (lv i c)) n)) 1 (upd fo (.agg #[.int .i64 k1, .string a, .string b, .int .i64 k2, .string c, .string d]) (.int .i64 (cnt (fun i => onP k1 b (lv i a) && onP k2 d (lv i c)) n))) ∧ Below N W w3) := by
                  refine ⟨?_, hB3⟩
                  rw [HL.out] at hI3
                  exact hI3
                clear hI3 hB3
                obtain ⟨s1, s2, s3, s4, s5, s6⟩ := HF.out.six
                have s7 := HF.out.idx.c4
                go_wp2_with fail
                go_region_held3 (fun w' => w'.cell? ⟨N + 3, 4, none⟩ = some (.map (some (N + 2))) ∧ w'.cell? ⟨W.heap.size, 0, none⟩ = some (.int .i64 k1) ∧ w'.cell? ⟨W.heap.size, 1, none⟩ = some (.string a) ∧ w'.cell? ⟨W.heap.size, 2, none⟩ = some (.string b) ∧
  w'.cell? ⟨W.heap.size + 1, 0, none⟩ = some (.int .i64 k2) ∧ w'.cell? ⟨W.heap.size + 1, 1, none⟩ = some (.string c) ∧ w'.cell? ⟨W.heap.size + 1, 2, none⟩ = some (.string d)) (go_keep) (fail)
                go_wp2_with fail
                go_ret
                exact ⟨rfl, HP3.out⟩
end
end Go.Proofs.Qxb6601594a.Mem
