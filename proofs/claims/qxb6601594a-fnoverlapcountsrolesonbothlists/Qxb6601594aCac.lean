import Derived.Test.Qxb6601594aSet
import Derived.Deep.RegionHeld3
namespace Go.Proofs.Qxb6601594a.Mem
open Go.ChangeShapes Go.WideShapes Go.ChangeAt Go.RowKit Go.Maps
open Go.Proofs.Qxb6601594a.Plain Go.Proofs.Qxb6601594a.Map
set_option linter.unusedVariables false
set_option linter.unusedSimpArgs false
section
variable {N n : Nat} {ms es : Addr} {mb : Nat → Nat} {fk fl : Value → Option Value} {lv : Nat → ByteArray → Option ByteArray} {t : Int} {oc : Nat} {fo : Value → Option Value}

def resO (o : Option Value) : Value := .tuple #[o.getD (.int .i64 0), .bool o.isSome]

set_option maxHeartbeats 1600000 in
theorem cached12 (k1 : Int) (a b : ByteArray) (k2 : Int) (c d : ByteArray) (o : Option Int) (W : World) (h : Idx W N n ms es mb fk fl lv t oc fo) (hk1 : (Lit.int .i64 k1).wf = true) (hk2 : (Lit.int .i64 k2).wf = true)
    (ha : a.size ≤ 9223372036854775807) (hb : b.size ≤ 9223372036854775807) (hc : c.size ≤ 9223372036854775807) (hd : d.size ≤ 9223372036854775807) (ho : fo (.agg #[.int .i64 k1, .string a, .string b, .int .i64 k2, .string c, .string d]) = o.map (.int .i64)) :
    Calls Try.prog 12 #[.pointer (some ⟨N + 3, 0, none⟩), .int .i64 k1, .string a, .string b, .int .i64 k2, .string c, .string d] W fun e w' =>
      e = .returned (.tuple #[.int .i64 (o.getD 0), .bool o.isSome]) ∧ Below W.heap.size W w' := by
  have HC : Hid (∀ (w : World) (kd : Int) (ky vl : ByteArray), Below W.heap.size W w → Calls Try.prog 22 #[.int .i64 kd, .string ky, .string vl] w fun e w' => e = .returned (.agg #[.int .i64 kd, .string ky, .string vl]) ∧ Hid (Below W.heap.size W w') ∧ w'.cell? ⟨N + 3, 4, none⟩ = some (.map (some (N + 2)))
      ∧ (Instr.lookup 57 (.map (some (N + 2))) (.agg #[.int .i64 k1, .string a, .string b, .int .i64 k2, .string c, .string d]) true).run Try.prog w' = .ok (.tuple #[.int .i64 (o.getD 0), .bool o.isSome]) w') := by
    intro w kd ky vl hbw
    refine (roleList kd ky vl w).mono ?_
    rintro e w' ⟨rfl, hb'⟩
    have hB : Below W.heap.size W w' := hbw.trans (hb'.mono hbw.size)
    have hI := h.below hB
    refine ⟨rfl, hB, hI.c4, ?_⟩
    rw [hI.ov.look_ok K60 Try.underlying57 (zero3 _) (key60 hk1 hk2 ha hb hc hd), ho]
    cases o <;> rfl
  have c4 := h.c4
  have HB0 : Hid (Below W.heap.size W W.drew) := (Below.refl _ _).drew
  clear h ho
  go_enter Try.func12, Try.ntmps12
  go_wp2_with fail
  go_region_held3 (fun w' => w'.cell? ⟨N + 3, 4, none⟩ = some (.map (some (N + 2))) ∧ Hid (Below W.heap.size W w')) (go_keep)
    (first | (go_at_call 22; refine (HC.out _ _ _ _ (show Below _ _ _ from Hid.out (by assumption))).mono ?_; rintro e w1 ⟨rfl, hB, hc1, hl1⟩))
  go_wp2_with fail
  go_ret2
  exact ⟨rfl, hB.out⟩
end
end Go.Proofs.Qxb6601594a.Mem
