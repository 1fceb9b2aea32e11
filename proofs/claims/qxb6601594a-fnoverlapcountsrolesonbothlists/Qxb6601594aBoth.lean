import Derived.Test.Qxb6601594aMem
namespace Go.Proofs.Qxb6601594a.Mem
open Go.ChangeShapes Go.WideShapes Go.ChangeAt Go.RowKit Go.Maps
open Go.Proofs.Qxb6601594a.Plain Go.Proofs.Qxb6601594a.Map
set_option linter.unusedVariables false
set_option linter.unusedSimpArgs false

set_option maxHeartbeats 1600000 in
theorem countBoth (a : Option Addr) (n cap : Nat) (R : Nat → Option Addr) (L C : Nat → Nat) (K V : Nat → Nat → ByteArray) (kind : Int) (key value : ByteArray) (kind2 : Int) (key2 value2 : ByteArray) (W : World) (h : LabIn W a n R L C K V) (hn : n ≤ 1048576) :
    Calls Try.prog 10 #[.slice a n cap, .int .i64 kind, .string key, .string value, .int .i64 kind2, .string key2, .string value2] W fun e w' => e = .returned (.int .i64 (cnt (fun i => onP kind value (lastV (K i) (V i) (L i) key) && onP kind2 value2 (lastV (K i) (V i) (L i) key2)) n)) ∧ w' = W := by
  generalize hf : (fun i => onP kind value (lastV (K i) (V i) (L i) key) && onP kind2 value2 (lastV (K i) (V i) (L i) key2)) = f
  have HF : Hid (∀ i, f i = (onP kind value (lastV (K i) (V i) (L i) key) && onP kind2 value2 (lastV (K i) (V i) (L i) key2))) := fun i => by rw [← hf]
  clear hf
  go_enter Try.func10, Try.ntmps10
  go_wp2
  go_loop [15, 16] (fun s i => ∃ t : Nat, t ≤ n ∧ i = .int .i64 t ∧ s = .int .i64 (cnt f t)) (fun _ i => n - (intOf i).toNat)
  case atStart => exact ⟨0, Nat.zero_le _, rfl, rfl⟩
  case round =>
    obtain ⟨t, ht, rfl, rfl⟩ := hrel
    have hle := cnt_le f t
    by_cases hlt : t < n
    · obtain ⟨x, rfl, e0⟩ := h.cs t hlt
      have HALL : Hid (∀ (kd : Int) (ky vl : ByteArray), Calls Try.prog 23 #[.slice (R t) (L t) (C t), .int .i64 kd, .string ky, .string vl] W fun e w' => e = .returned (.bool (onP kd vl (lastV (K t) (V t) (L t) ky))) ∧ w' = W) := fun kd ky vl => on23 (R t) (L t) (C t) kd ky vl (K t) (V t) W (h.role t hlt) (h.sz t hlt)
      have hft := HF.out t
      cases hb : onP kind value (lastV (K t) (V t) (L t) key)
      · have HC : Hid (cnt f (t + 1) = cnt f t) := by show _ = _; simp [cnt, hft, hb]
        clear hft
        go_wp2_with (go_at_call 23; refine (HALL.out _ _ _).mono ?_; rintro e w' ⟨rfl, rfl⟩)
        go_wp2
        go_round
        case rel => exact ⟨t + 1, by omega, by go_num, by rw [HC.out]⟩
        case measure => simp [intOf]; omega
      · cases hb2 : onP kind2 value2 (lastV (K t) (V t) (L t) key2)
        · have HC : Hid (cnt f (t + 1) = cnt f t) := by show _ = _; simp [cnt, hft, hb, hb2]
          clear hft
          go_wp2_with (go_at_call 23; refine (HALL.out _ _ _).mono ?_; rintro e w' ⟨rfl, rfl⟩)
          go_wp2
          go_round
          case rel => exact ⟨t + 1, by omega, by go_num, by rw [HC.out]⟩
          case measure => simp [intOf]; omega
        · have HC : Hid (cnt f (t + 1) = cnt f t + 1) := by show _ = _; simp [cnt, hft, hb, hb2]
          clear hft
          go_wp2_with (go_at_call 23; refine (HALL.out _ _ _).mono ?_; rintro e w' ⟨rfl, rfl⟩)
          go_wp2
          go_round
          case rel => exact ⟨t + 1, by omega, by go_num, by rw [HC.out]; go_num⟩
          case measure => simp [intOf]; omega
    · obtain rfl : t = n := by omega
      go_wp2
      go_ret
      exact ⟨rfl, rfl⟩

end Go.Proofs.Qxb6601594a.Mem
