import Derived.Test.Qxb6601594aPlc
namespace Go.Proofs.Qxb6601594a.Mem
open Go.ChangeShapes Go.WideShapes Go.ChangeAt Go.RowKit Go.Maps
open Go.Proofs.Qxb6601594a.Plain Go.Proofs.Qxb6601594a.Map
set_option linter.unusedVariables false
set_option linter.unusedSimpArgs false

theorem new18 (sm se : Value) (t : Int) (hm : ∃ a l c, sm = .slice a l c) (he : ∃ a l c, se = .slice a l c) (W : World) :
    Calls Try.prog 18 #[sm, se, .int .i64 t] W fun e w' => e = .returned (.pointer (some ⟨W.heap.size + 3, 0, none⟩)) ∧ w' = (((W.alloc (.map #[] 0)).alloc (.map #[] 0)).alloc (.map #[] 0)).alloc (.cells #[sm, se, .map (some W.heap.size), .map (some (W.heap.size + 1)), .map (some (W.heap.size + 2)), .int .i64 t] 59) := by
  obtain ⟨a, l, c, rfl⟩ := hm
  obtain ⟨a', l', c', rfl⟩ := he
  have hmm := @run_makeMap Try.prog
  go_enter Try.func18, Try.ntmps18
  go_wp2
  go_ret
  exact ⟨rfl, rfl⟩

/-- A store into the map at block b, and nothing else. -/
def Stored (W w' : World) (k b n : Nat) (f : Value → Option Value) : Prop := (∃ c, MapIs w' k b (n + 1) c f) ∧ W.grownBy w' (some b) ∧ w'.heap.size = W.heap.size

theorem setKeyed19 [DecidableEq Value] (x b n c : Nat) (f : Value → Option Value) (key : ByteArray) (a : Option Addr) (l cap : Nat) (W : World) (hx : W.cell? ⟨x, 3, none⟩ = some (.map (some b))) (hm : MapIs W 9 b n c f) (hn : n < maxLen) (hk : key.size ≤ 9223372036854775807) :
    Calls Try.prog 19 #[.pointer (some ⟨x, 0, none⟩), .string key, .slice a l cap] W fun e w' => e = .returned (.tuple #[]) ∧ Stored W w' 9 b n (upd f (.string key) (.slice a l cap)) := by
  obtain ⟨w2, hrun, hm2, hg2, hs2⟩ := hm.store K9 Try.underlying40 hn (key9 hk) (.slice a l cap)
  have HP : Hid (Stored W w2 9 b n (upd f (.string key) (.slice a l cap))) := ⟨⟨_, hm2⟩, hg2, hs2⟩
  clear hm hm2 hg2 hs2
  go_enter Try.func19, Try.ntmps19
  go_wp2
  go_end0
  exact ⟨rfl, HP.out⟩

theorem setLabelled20 [DecidableEq Value] (x b n c : Nat) (f : Value → Option Value) (key value : ByteArray) (a : Option Addr) (l cap : Nat) (W : World) (hx : W.cell? ⟨x, 2, none⟩ = some (.map (some b))) (hm : MapIs W 51 b n c f) (hn : n < maxLen) (hk : key.size ≤ 9223372036854775807) (hv : value.size ≤ 9223372036854775807) :
    Calls Try.prog 20 #[.pointer (some ⟨x, 0, none⟩), .string key, .string value, .slice a l cap] W fun e w' => e = .returned (.tuple #[]) ∧ Stored W w' 51 b n (upd f (.agg #[.string key, .string value]) (.slice a l cap)) := by
  obtain ⟨w2, hrun, hm2, hg2, hs2⟩ := hm.store K51 Try.underlying56 hn (key51 hk hv) (.slice a l cap)
  have HP : Hid (Stored W w2 51 b n (upd f (.agg #[.string key, .string value]) (.slice a l cap))) := ⟨⟨_, hm2⟩, hg2, hs2⟩
  clear hm hm2 hg2 hs2
  go_enter Try.func20, Try.ntmps20
  go_wp2
  go_end0
  exact ⟨rfl, HP.out⟩

end Go.Proofs.Qxb6601594a.Mem
