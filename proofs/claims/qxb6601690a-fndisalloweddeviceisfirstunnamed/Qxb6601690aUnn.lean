import Derived.Test.Qxb6601690aDis
import Derived.Deep.CutBlock
namespace Go.Proofs.Qxb6601690a.Dis
open Go.ChangeShapes Go.WideShapes Go.ChangeAt Go.RowKit Go.Maps
open Go.Proofs.Qxb6601690a.Plain Go.Proofs.Qxb6601690a.Mem Go.Proofs.Qxb6601690a.Tgt
set_option linter.unusedVariables false
set_option linter.unusedSimpArgs false

theorem below_drewN' {B : Nat} {a w : World} (h : Below B a w) (n : Nat) : Below B a (w.drewN n) := ⟨h.os, h.tape, h.output, h.size, h.block⟩

set_option maxHeartbeats 1600000 in
theorem unnNil (ad : Option Addr) (m cd : Nat) (W : World) (Dv : Nat → ByteArray) :
    Calls Try.prog 12 #[.slice none 0 0, .slice ad m cd] W fun e w' => e = .returned (resV Dv none) ∧ Below W.heap.size W w' := by
  have hnil := fun w => Lib.run_eql_slice_nil (P := Try.prog) w 24 41 none 0 0 0 0 Try.underlying24
  go_enter Try.func12, Try.ntmps12
  go_wp2
  go_ret2
  exact ⟨rfl, Below.refl _ _⟩

set_option maxHeartbeats 1600000 in
theorem unnSome (x : Addr) (n : Nat) (Pt F : Nat → Option Addr) (FL : Nat → Nat) (Id : Nat → ByteArray) (ad : Option Addr) (m cd : Nat) (Dv : Nat → ByteArray) (W : World)
    (h : TP W (some x) n Pt Id F FL FL) (hd : Strs W ad m Dv) (hn : n ≤ 1048576) (hm : m ≤ 1048576) :
    Calls Try.prog 12 #[.slice (some x) n n, .slice ad m cd] W fun e w' => (∃ o, First (fun k => named n (ptB Pt) (idL Id) (Dv k).data.toList) m o ∧ e = .returned (resV Dv o)) ∧ Below W.heap.size W w' := by
  have hs41 := cells41
  have hnil := fun w => Lib.run_eql_slice_nil (P := Try.prog) w 24 41 (some x) n n 0 0 Try.underlying24
  have HD : Hid (Strs W ad m Dv) := hd
  clear hd
  go_enter Try.func12, Try.ntmps12
  go_wp2
  clear hnil
  go_loopw [6, 7, 8, 9] (fun i _ _ _ wr => ∃ k q : Nat, k ≤ m ∧ i = .int .i64 k ∧ Hid (∀ j, j < k → named n (ptB Pt) (idL Id) (Dv j).data.toList = true) ∧ wr = W.drewN q) (fun i _ _ _ _ => m - (intOf i).toNat)
  case atStart => exact ⟨0, 0, Nat.zero_le _, rfl, (fun j hj => absurd hj (by omega) : ∀ j, j < 0 → named n (ptB Pt) (idL Id) (Dv j).data.toList = true), rfl⟩
  case round =>
    obtain ⟨k, q, hk, rfl, HJ, rfl⟩ := hrel
    by_cases hlt : k < m
    · obtain ⟨xd, rfl, hxd⟩ := HD.out k hlt
      go_upto_block 2 with fail
      go_cut [7, 8, 9] (fun v _ _ wx => v = .bool (named n (ptB Pt) (idL Id) (Dv k).data.toList) ∧ ∃ q', wx = W.drewN q')
      case first =>
        go_wp2
        go_loopw [7, 8, 9] (fun v j _ wx => ∃ t q' : Nat, t ≤ n ∧ j = .int .i64 t ∧ v = .bool false ∧ Hid (named t (ptB Pt) (idL Id) (Dv k).data.toList = false) ∧ wx = W.drewN q') (fun _ j _ _ => n - (intOf j).toNat)
        case atStart => exact ⟨0, q, Nat.zero_le _, rfl, rfl, (show _ = _ from rfl), rfl⟩
        case round =>
          obtain ⟨t, q', ht, rfl, rfl, HT, rfl⟩ := hrel
          by_cases htl : t < n
          · obtain ⟨x', hx', e0, e1⟩ := h.cs t htl
            cases hx'
            cases hp : Pt t with
            | none =>
              rw [hp] at e0
              have HT1 : Hid (named (t + 1) (ptB Pt) (idL Id) (Dv k).data.toList = false) := by show _ = _; rw [named_succ, HT.out]; simp [ptB, hp]
              clear hp
              go_wp2
              go_quiet (fail)
              go_wp2
              go_roundw
              case rel => exact ⟨t + 1, _, by omega, by go_num, rfl, HT1, rfl⟩
              case measure => simp [intOf]; omega
            | some p =>
              rw [hp] at e0
              have hc := h.id t htl p hp
              by_cases he : (Id t).data.toList = (Dv k).data.toList
              · have hbe : ((Id t).toList == (Dv k).toList) = true := by rw [bytes_beq]; exact decide_eq_true he
                have HN : Hid (named n (ptB Pt) (idL Id) (Dv k).data.toList = true) := (named_iff _ _ _ _).2 ⟨t, htl, by simp [ptB, hp], he⟩
                clear he hp
                go_wp2
                go_quiet (fail)
                go_wp2
                go_meet
                case rel => exact ⟨by rw [HN.out], _, by first | rfl | (simp only [World.drewN_drewN]; rfl)⟩
              · have hbe : ((Id t).toList == (Dv k).toList) = false := by rw [bytes_beq]; exact decide_eq_false he
                have HT1 : Hid (named (t + 1) (ptB Pt) (idL Id) (Dv k).data.toList = false) := by
                  show _ = _
                  rw [named_succ, HT.out]
                  have : decide (idL Id t = (Dv k).data.toList) = false := decide_eq_false he
                  rw [this]; simp
                clear he hp
                go_wp2
                go_quiet (fail)
                go_wp2
                go_roundw
                case rel => exact ⟨t + 1, _, by omega, by go_num, rfl, HT1, rfl⟩
                case measure => simp [intOf]; omega
          · have etn : n = t := by omega
            subst etn
            go_wp2
            go_meet
            case rel => exact ⟨by rw [HT.out], _, rfl⟩
      case rest =>
        obtain ⟨rfl, q', rfl⟩ := hcut
        cases hnm : named n (ptB Pt) (idL Id) (Dv k).data.toList
        · have HR : Hid (First (fun k => named n (ptB Pt) (idL Id) (Dv k).data.toList) m (some k)) := ⟨hlt, hnm, HJ.out⟩
          go_wp2
          go_ret2
          exact ⟨⟨some k, HR.out, rfl⟩, below_drewN' (Below.refl _ _) _⟩
        · have HJ1 : Hid (∀ j, j < k + 1 → named n (ptB Pt) (idL Id) (Dv j).data.toList = true) := by
            intro j hj
            by_cases e : j = k
            · subst e; exact hnm
            · exact HJ.out j (by omega)
          go_wp2
          go_roundw
          case rel => exact ⟨k + 1, _, by omega, by go_num, HJ1, rfl⟩
          case measure => simp [intOf]; omega
    · have ekm : m = k := by omega
      subst ekm
      have HR : Hid (First (fun k => named n (ptB Pt) (idL Id) (Dv k).data.toList) m none) := HJ
      go_wp2
      go_ret2
      exact ⟨⟨none, HR.out, rfl⟩, below_drewN' (Below.refl _ _) _⟩
end Go.Proofs.Qxb6601690a.Dis
