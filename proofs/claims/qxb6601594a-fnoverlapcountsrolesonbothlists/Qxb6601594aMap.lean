import Derived.Test.Qxb6601594aRows
import Derived.WalkKit
import Derived.ProofKit
import Derived.OpenShut
import Derived.Maps.Own
import Derived.Maps.OwnSet
import Derived.Maps.Views
import Derived.DeepKeys4
namespace Go.Proofs.Qxb6601594a.Map
open Go.ChangeShapes Go.WideShapes Go.ChangeAt Go.RowKit Go.Maps
set_option linter.unusedVariables false
set_option linter.unusedSimpArgs false

/-- How an element reads: as itself. -/
def anyElem (v : Value) : Option (DataW Value × List MemPlace) := some (.held v, [])

/-- What is found at a key, where f says what is there. -/
def found (o : Option Value) (z : DataW Value) : DataW Value := match o with | some v => .held v | none => z

/-- Block b of w is a map of at most n entries, c of them, keyed by type k, which holds f. -/
def MapIs (w : World) (k : TypeId) (b n c : Nat) (f : Value → Option Value) : Prop :=
  ∃ D : DataW Value, w.ownsMap Try.prog k anyElem b n D ∧ Maps.size D = c ∧ ∀ key kl, keyOf Try.prog k key = some kl → ∀ z, D.atKey kl z = found (f key) z

variable {w w' : World} {k : TypeId} {b n c : Nat} {f : Value → Option Value}

theorem MapIs.made (w : World) (k : TypeId) : MapIs (w.alloc (.map #[] 0)) k w.heap.size 0 0 (fun _ => none) :=
  ⟨_, World.ownsMap_made w _ _ _, rfl, fun key kl _ z => rfl⟩

theorem MapIs.lt (h : MapIs w k b n c f) : b < w.heap.size := by
  obtain ⟨D, h, _⟩ := h
  exact h.lt

theorem MapIs.same (h : MapIs w k b n c f) (hb : w'.heap[b]? = w.heap[b]?) : MapIs w' k b n c f := by
  obtain ⟨D, ⟨es, clock, h1, h2⟩, h3⟩ := h
  exact ⟨D, ⟨es, clock, hb.trans h1, h2⟩, h3⟩

theorem MapIs.mono (h : MapIs w k b n c f) {n' : Nat} (hn : n ≤ n') : MapIs w k b n' c f := by
  obtain ⟨D, h, h2⟩ := h
  exact ⟨D, h.mono hn, h2⟩

theorem MapIs.look (h : MapIs w k b n c f) (K : Keyed Try.prog k) {t e : TypeId} (ht : Try.prog.underlying t = some (.map k e)) {z : Value} (hz : (zeroValue e).run Try.prog w = .ok z w) {key : Value} (hk : (keyOf Try.prog k key).isSome = true) :
    (Instr.lookup t (.map (some b)) key false).run Try.prog w = .ok ((f key).getD z) w := by
  obtain ⟨kl, hkl⟩ := Option.isSome_iff_exists.1 hk
  obtain ⟨D, h, _, h2⟩ := h
  obtain ⟨v, ps, hrun, hv⟩ := h.lookup K ht hz (zd := .held z) rfl hkl
  rw [h2 key kl hkl] at hv
  rw [hrun]
  cases hf : f key with
  | none => rw [hf] at hv; simp only [anyElem, found, Option.some.injEq, Prod.mk.injEq, DataW.held.injEq] at hv; rw [hv.1]; rfl
  | some u => rw [hf] at hv; simp only [anyElem, found, Option.some.injEq, Prod.mk.injEq, DataW.held.injEq] at hv; rw [hv.1]; rfl

theorem MapIs.look_ok (h : MapIs w k b n c f) (K : Keyed Try.prog k) {t e : TypeId} (ht : Try.prog.underlying t = some (.map k e)) {z : Value} (hz : (zeroValue e).run Try.prog w = .ok z w) {key : Value} (hk : (keyOf Try.prog k key).isSome = true) :
    (Instr.lookup t (.map (some b)) key true).run Try.prog w = .ok (.tuple #[(f key).getD z, .bool (f key).isSome]) w := by
  obtain ⟨kl, hkl⟩ := Option.isSome_iff_exists.1 hk
  obtain ⟨D, h, _, h2⟩ := h
  obtain ⟨v, ps, hrun, hv⟩ := h.look_ok K ht hz (zd := .held z) rfl hkl
  rw [h2 key kl hkl] at hv
  rw [hrun]
  have h3 := h2 key kl hkl
  cases hf : f key with
  | none =>
    rw [hf] at hv h3
    simp only [anyElem, found, Option.some.injEq, Prod.mk.injEq, DataW.held.injEq] at hv h3
    rw [hv.1, Maps.has_false_of_atKey h3]; rfl
  | some u =>
    rw [hf] at hv h3
    simp only [anyElem, found, Option.some.injEq, Prod.mk.injEq, DataW.held.injEq] at hv h3
    rw [hv.1, Maps.has_true_of_atKey h3]; rfl

theorem MapIs.len (h : MapIs w k b n c f) {t e : TypeId} (ht : Try.prog.underlying t = some (.map k e)) (ty : TypeId) : (Builtin.len_ #[t] ty #[.map (some b)]).run Try.prog w = .ok (.int .i64 c) w := by
  obtain ⟨D, h, h1, _⟩ := h
  rw [h.len ht ty, h1]

/-- f with v at key. -/
def upd [DecidableEq Value] (f : Value → Option Value) (key v : Value) : Value → Option Value := fun x => if x = key then some v else f x

theorem upd_same [DecidableEq Value] (f : Value → Option Value) (key v : Value) : upd f key v key = some v := by simp [upd]
theorem upd_other [DecidableEq Value] (f : Value → Option Value) {key x : Value} (v : Value) (h : x ≠ key) : upd f key v x = f x := by simp [upd, h]

theorem MapIs.store [DecidableEq Value] (h : MapIs w k b n c f) (K : Keyed Try.prog k) {t e : TypeId} (ht : Try.prog.underlying t = some (.map k e)) (hn : n < maxLen) {key : Value} (hk : (keyOf Try.prog k key).isSome = true) (v : Value) :
    ∃ w', (Instr.mapUpdate t (.map (some b)) key v).run Try.prog w = .ok () w' ∧ MapIs w' k b (n + 1) (if (f key).isSome then c else c + 1) (upd f key v) ∧ w.grownBy w' (some b) ∧ w'.heap.size = w.heap.size := by
  obtain ⟨kl, hkl⟩ := Option.isSome_iff_exists.1 hk
  obtain ⟨D, h, h1, h2⟩ := h
  obtain ⟨w', hrun, hown, hg⟩ := h.store K ht hn hkl (val := v) (d := .held v) (ps := []) rfl
  refine ⟨w', hrun, ⟨_, hown, ?_, ?_⟩, hg.grown, ?_⟩
  · rw [Maps.size_put (h.tidy K), h1]
    have h3 := h2 key kl hkl
    cases hf : f key with
    | none => rw [hf] at h3; simp only [found] at h3; rw [Maps.has_false_of_atKey h3]; rfl
    | some u => rw [hf] at h3; simp only [found] at h3; rw [Maps.has_true_of_atKey h3]; rfl
  · intro x xl hx z
    by_cases hxk : x = key
    · subst hxk
      obtain rfl : xl = kl := by rw [hkl] at hx; exact (Option.some.inj hx).symm
      rw [Maps.atKey_put_same h.isMap (K.key hkl), upd_same]; rfl
    · rw [Maps.atKey_put_other (fun e => hxk (K.inj hx (by rw [e]; exact hkl))), upd_other f v hxk]
      exact h2 x xl hx z
  · obtain ⟨es, clock, es', clock', hb, rfl⟩ := hg
    simp [ChangeMaps.setBlock]

/-! ### The keys of this program -/
theorem laidOut : laidOutB Try.prog = true := by kernel_rfl
theorem K9 : Keyed Try.prog 9 := string_keyed Try.underlying9
theorem K36 : Keyed Try.prog 36 := Keyed.of_law (deep_law_laid laidOut (m := 3) (by omega) (of_decide_eq_true (by kernel_rfl)) (by kernel_rfl) (by kernel_rfl))
theorem K51 : Keyed Try.prog 51 := Keyed.of_law (deep_law_laid laidOut (m := 3) (by omega) (of_decide_eq_true (by kernel_rfl)) (by kernel_rfl) (by kernel_rfl))
theorem K60 : Keyed Try.prog 60 := Keyed.of_law (deep_law_laid laidOut (m := 5) (by omega) (of_decide_eq_true (by kernel_rfl)) (by kernel_rfl) (by kernel_rfl))

theorem key9 {s : ByteArray} (h : s.size ≤ 9223372036854775807) : (keyOf Try.prog 9 (.string s)).isSome = true := by
  rw [WideMaps.keyOf_string_mk Try.underlying9 h]; rfl

theorem kt36 : Try.prog.keyType 36 = true := by kernel_rfl
theorem kt51 : Try.prog.keyType 51 = true := by kernel_rfl
theorem kt60 : Try.prog.keyType 60 = true := by kernel_rfl
theorem cells36 : Try.prog.cellsOf 36 = 2 := by kernel_rfl
theorem cells51 : Try.prog.cellsOf 51 = 2 := by kernel_rfl
theorem cells53 : Try.prog.cellsOf 53 = 3 := by kernel_rfl
theorem cells60 : Try.prog.cellsOf 60 = 6 := by kernel_rfl
theorem cells9 : Try.prog.cellsOf 9 = 1 := by kernel_rfl
theorem cells49 : Try.prog.cellsOf 49 = 1 := by kernel_rfl
theorem tsize : Try.prog.types.size = 81 := by kernel_rfl

theorem kl_struct {P : Program} {t : TypeId} {fs : Array Field} (hu : P.underlying t = some (.struct fs)) (d : Nat) (cs : List Value) : P.keyLits (d + 1) t cs =
    if cs.length = P.cellsOf t ∧ fs.all (·.name != "_") = true then (fs.toList.mapM fun f => P.keyLits d f.type ((cs.drop f.offset).take (P.cellsOf f.type))).map List.flatten else none := by
  simp only [Program.keyLits, hu]
theorem kl_array {P : Program} {t e : TypeId} {n : Nat} (hu : P.underlying t = some (.array n e)) (d : Nat) (cs : List Value) : P.keyLits (d + 1) t cs =
    if cs.length = P.cellsOf t then ((List.range n).mapM fun i => P.keyLits d e ((cs.drop (i * P.cellsOf e)).take (P.cellsOf e))).map List.flatten else none := by
  simp only [Program.keyLits, hu]
theorem kl9 (d : Nat) {a : ByteArray} (ha : a.size ≤ 9223372036854775807) : Try.prog.keyLits (d + 1) 9 [.string a] = some [.string a.data.toList] := by
  simp only [Program.keyLits, Try.underlying9]
  rw [if_pos (show a.size ≤ maxLen from ha)]
theorem kl49 (d : Nat) {x : Int} (hx : (Lit.int .i64 x).wf = true) : Try.prog.keyLits (d + 1) 49 [.int .i64 x] = some [.int .i64 x] := by
  simp only [Program.keyLits, Try.underlying49]
  simp [hx]
theorem kl36 (d : Nat) {a b : ByteArray} (ha : a.size ≤ 9223372036854775807) (hb : b.size ≤ 9223372036854775807) : Try.prog.keyLits (d + 2) 36 [.string a, .string b] = some [.string a.data.toList, .string b.data.toList] := by
  rw [kl_struct Try.underlying36, cells36]
  simp [cells9, kl9 d ha, kl9 d hb]
theorem kl51 (d : Nat) {a b : ByteArray} (ha : a.size ≤ 9223372036854775807) (hb : b.size ≤ 9223372036854775807) : Try.prog.keyLits (d + 2) 51 [.string a, .string b] = some [.string a.data.toList, .string b.data.toList] := by
  rw [kl_struct Try.underlying51, cells51]
  simp [cells9, kl9 d ha, kl9 d hb]
theorem kl53 (d : Nat) {x : Int} {a b : ByteArray} (hx : (Lit.int .i64 x).wf = true) (ha : a.size ≤ 9223372036854775807) (hb : b.size ≤ 9223372036854775807) : Try.prog.keyLits (d + 3) 53 [.int .i64 x, .string a, .string b] = some [.int .i64 x, .string a.data.toList, .string b.data.toList] := by
  rw [kl_struct Try.underlying53, cells53]
  simp [cells49, cells51, kl49 (d + 1) hx, kl51 d ha hb]
theorem kl60 (d : Nat) {x y : Int} {a b c e : ByteArray} (hx : (Lit.int .i64 x).wf = true) (hy : (Lit.int .i64 y).wf = true) (ha : a.size ≤ 9223372036854775807) (hb : b.size ≤ 9223372036854775807) (hc : c.size ≤ 9223372036854775807) (he : e.size ≤ 9223372036854775807) :
    Try.prog.keyLits (d + 4) 60 [.int .i64 x, .string a, .string b, .int .i64 y, .string c, .string e] = some [.int .i64 x, .string a.data.toList, .string b.data.toList, .int .i64 y, .string c.data.toList, .string e.data.toList] := by
  rw [kl_array Try.underlying60, cells60]
  simp [cells53, List.range, List.range.loop, kl53 d hx ha hb, kl53 d hy hc he]

theorem key36 {a b : ByteArray} (ha : a.size ≤ 9223372036854775807) (hb : b.size ≤ 9223372036854775807) : (keyOf Try.prog 36 (.agg #[.string a, .string b])).isSome = true := by
  have h1 : (Value.agg #[.string a, .string b]).formed Try.prog 36 = true := by simp only [Value.formed, Try.underlying36, cells36]; rfl
  simp only [keyOf, Try.underlying36, kt36, h1, tsize, Value.cells, kl36 80 ha hb, Bool.and_self, if_true, Option.map_some, Option.isSome_some]
theorem key51 {a b : ByteArray} (ha : a.size ≤ 9223372036854775807) (hb : b.size ≤ 9223372036854775807) : (keyOf Try.prog 51 (.agg #[.string a, .string b])).isSome = true := by
  have h1 : (Value.agg #[.string a, .string b]).formed Try.prog 51 = true := by simp only [Value.formed, Try.underlying51, cells51]; rfl
  simp only [keyOf, Try.underlying51, kt51, h1, tsize, Value.cells, kl51 80 ha hb, Bool.and_self, if_true, Option.map_some, Option.isSome_some]
theorem key60 {a b c d : ByteArray} {x y : Int} (hx : (Lit.int .i64 x).wf = true) (hy : (Lit.int .i64 y).wf = true) (ha : a.size ≤ 9223372036854775807) (hb : b.size ≤ 9223372036854775807) (hc : c.size ≤ 9223372036854775807) (hd : d.size ≤ 9223372036854775807) :
    (keyOf Try.prog 60 (.agg #[.int .i64 x, .string a, .string b, .int .i64 y, .string c, .string d])).isSome = true := by
  have h1 : (Value.agg #[.int .i64 x, .string a, .string b, .int .i64 y, .string c, .string d]).formed Try.prog 60 = true := by simp only [Value.formed, Try.underlying60, cells60]; rfl
  simp only [keyOf, Try.underlying60, kt60, h1, tsize, Value.cells, kl60 78 hx hy ha hb hc hd, Bool.and_self, if_true, Option.map_some, Option.isSome_some]

end Go.Proofs.Qxb6601594a.Map
