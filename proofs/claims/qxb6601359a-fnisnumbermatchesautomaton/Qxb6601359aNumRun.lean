import Derived.Test.Qxb6601359aNum
namespace Go.Proofs.Qxb6601359a.Num
open Go.ChangeShapes Go.WideShapes Go.ChangeAt Go.RowKit
open Go.Proofs.Qxb6601359a.NumPlain
set_option linter.unusedVariables false
set_option linter.unusedSimpArgs false

theorem cell_far (w : World) (p a : Addr) (v : Value) (h : p.block ≠ a.block) : (w.setCell p v).cell? a = w.cell? a :=
  World.cell?_of_block (w := w) (Below.heap_setCell w p v a.block h.symm)
theorem grown_trans {a b c : World} (h : Grown a b) (k : Grown b c) : Grown a c :=
  ⟨World.keptBut_trans h.1 (World.keptBut_mono (fun _ f => f.elim) k.1), fun x => (k.2.1 x).trans (h.2.1 x), Nat.le_trans h.2.2 k.2.2⟩

set_option maxHeartbeats 800000 in
/-- The closure: it runs over the digits from k on. -/
theorem digits (s : ByteArray) (hs : s.size ≤ maxLen) (bi bn : Nat) (hne : bn ≠ bi) (k : Nat) (hk : k ≤ s.size) (W : World)
    (c1 : W.cell? ⟨bi, 0, none⟩ = some (.int .i64 k)) (c2 : W.cell? ⟨bn, 0, none⟩ = some (.string s)) (f1 : W.frozen? ⟨bi, 0, none⟩ = false) :
    Calls Try.prog 29 #[.pointer (some ⟨bi, 0, none⟩), .pointer (some ⟨bn, 0, none⟩)] W fun e w' => e = .returned (.int .i64 (run (s.data.toList.drop k))) ∧
      w'.cell? ⟨bi, 0, none⟩ = some (.int .i64 ((k : Int) + run (s.data.toList.drop k))) ∧ w'.cell? ⟨bn, 0, none⟩ = some (.string s) ∧ w'.frozen? ⟨bi, 0, none⟩ = false ∧
      (∀ w0 : World, w0.heap.size ≤ bi → Grown w0 W → Grown w0 w') := by
  unfold maxLen at hs
  go_enter Try.func29, Try.ntmps29
  go_wp2
  go_loopw [] (fun wr => ∃ j : Nat, k ≤ j ∧ j ≤ s.size ∧ wr.cell? ⟨bi, 0, none⟩ = some (.int .i64 j) ∧ wr.cell? ⟨bn, 0, none⟩ = some (.string s) ∧ wr.frozen? ⟨bi, 0, none⟩ = false ∧ Hid (k + run (s.data.toList.drop k) = j + run (s.data.toList.drop j)) ∧ Hid (∀ w0 : World, w0.heap.size ≤ bi → Grown w0 W → Grown w0 wr)) (fun wr => s.size - (intOf ((wr.cell? ⟨bi, 0, none⟩).getD (.bool false))).toNat)
  case atStart => exact ⟨k, Nat.le_refl _, hk, c1, c2, f1, (show _ = _ from rfl), (fun _ _ h => h : ∀ w0 : World, w0.heap.size ≤ bi → Grown w0 W → Grown w0 W)⟩
  case round =>
    obtain ⟨j, hkj, hj, d1, d2, g1, HR, HG⟩ := hrel
    clear c1 c2 f1
    by_cases hlt : j < s.size
    · have hb := (s[j]).toNat_lt
      cases hd : isd (s[j].toNat : Int)
      · have HR' : Hid (k + run (s.data.toList.drop k) = j) := by
          show _ = _
          rw [HR.out, drop_cons s j hlt, run_cons, hd]; rfl
        have hv : (s[j].toNat : Int) < 48 ∨ 57 < (s[j].toNat : Int) := by simp [isd] at hd; omega
        clear hd
        rcases hv with hv | hv
        · have hv1 : ¬ 48 ≤ (s[j].toNat : Int) := by omega
          go_wp2
          go_ret
          exact ⟨ret_int (by have := HR'.out; omega), by rw [d1]; exact congrArg some (val_int (by have := HR'.out; omega)), d2, g1, HG.out⟩
        · have hv1 : 48 ≤ (s[j].toNat : Int) := by omega
          have hv2 : ¬ (s[j].toNat : Int) ≤ 57 := by omega
          go_wp2
          go_ret
          exact ⟨ret_int (by have := HR'.out; omega), by rw [d1]; exact congrArg some (val_int (by have := HR'.out; omega)), d2, g1, HG.out⟩
      · have HR' : Hid (k + run (s.data.toList.drop k) = (j + 1) + run (s.data.toList.drop (j + 1))) := by
          show _ = _
          rw [HR.out, drop_cons s j hlt, run_cons, hd]
          simp only [if_true]
          omega
        have hv : 48 ≤ (s[j].toNat : Int) ∧ (s[j].toNat : Int) ≤ 57 := by simpa [isd] using hd
        obtain ⟨hv1, hv2⟩ := hv
        clear hd
        go_wp2
        go_roundw
        case rel =>
          refine ⟨j + 1, by omega, by omega, ?_, ?_, ?_, HR', (fun w0 h0 h => ?_ : ∀ w0 : World, w0.heap.size ≤ bi → Grown w0 W → Grown w0 _)⟩
          · rw [World.cell?_setCell_same' _ _ _ (by rw [d1]; rfl)]; exact congrArg some (val_int (by omega))
          · rw [cell_far _ _ _ _ (by exact hne.symm)]; exact d2
          · rw [World.frozen?_setCell]; exact g1
          · exact (HG.out w0 h0 h).setCell h0 _
        case measure =>
          rw [World.cell?_setCell_same' _ _ _ (by rw [d1]; rfl), d1]
          simp [intOf]; omega
    · have hv0 : ¬ (j : Int) < s.size := by omega
      have HR' : Hid (k + run (s.data.toList.drop k) = j) := by
        show _ = _
        rw [HR.out, List.drop_of_length_le (by simp; omega)]; rfl
      go_wp2
      go_ret
      exact ⟨ret_int (by have := HR'.out; omega), by rw [d1]; exact congrArg some (val_int (by have := HR'.out; omega)), d2, g1, HG.out⟩
end Go.Proofs.Qxb6601359a.Num
