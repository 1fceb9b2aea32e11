import Derived.Test.Qxb6601594aIdx
namespace Go.Proofs.Qxb6601594a.Mem
open Go.ChangeShapes Go.WideShapes Go.ChangeAt Go.RowKit Go.Maps
open Go.Proofs.Qxb6601594a.Plain Go.Proofs.Qxb6601594a.Map
set_option linter.unusedVariables false
set_option linter.unusedSimpArgs false

theorem below_drewN' {B : Nat} {a w : World} (h : Below B a w) (n : Nat) : Below B a (w.drewN n) := ⟨h.os, h.tape, h.output, h.size, h.block⟩

theorem roleList (kind : Int) (key value : ByteArray) (W : World) :
    Calls Try.prog 22 #[.int .i64 kind, .string key, .string value] W fun e w' => e = .returned (.agg #[.int .i64 kind, .string key, .string value]) ∧ Below W.heap.size W w' := by
  go_enter Try.func22, Try.ntmps22
  go_wp2
  exact bodyPost_ret (v := .agg #[.int .i64 kind, .string key, .string value]) (by simp [results, Try.results22, go_sem]) rfl ⟨rfl, (Below.refl _ _).alloc (Nat.le_refl _) _⟩

theorem zero39 (w : World) : (zeroValue 39).run Try.prog w = .ok (.slice none 0 0) w := by kernel_rfl
theorem zero9 (w : World) : (zeroValue 9).run Try.prog w = .ok (.string ByteArray.empty) w := by kernel_rfl
theorem zero3 (w : World) : (zeroValue 3).run Try.prog w = .ok (.int .i64 0) w := by kernel_rfl

section
variable {N n : Nat} {ms es : Addr} {mb : Nat → Nat} {fk fl : Value → Option Value} {lv : Nat → ByteArray → Option ByteArray} {t : Int} {oc : Nat} {fo : Value → Option Value}

theorem tests14 (W : World) (h : Idx W N n ms es mb fk fl lv t oc fo) :
    Calls Try.prog 14 #[.pointer (some ⟨N + 3, 0, none⟩)] W fun e w' => e = .returned (.int .i64 t) ∧ w' = W := by
  have c5 := h.c5
  clear h
  go_enter Try.func14, Try.ntmps14
  go_wp2
  go_ret
  exact ⟨rfl, rfl⟩

theorem len13 (W : World) (h : Idx W N n ms es mb fk fl lv t oc fo) :
    Calls Try.prog 13 #[.pointer (some ⟨N + 3, 0, none⟩)] W fun e w' => e = .returned (.int .i64 oc) ∧ w' = W := by
  have c4 := h.c4
  have hlen := fun ty => h.ov.len Try.underlying57 ty
  clear h
  go_enter Try.func13, Try.ntmps13
  go_wp2
  go_ret
  exact ⟨rfl, rfl⟩

theorem pls_all (p : Nat → Bool) (hp : ∀ i, p i = true) : ∀ n, pls p n = List.range n
  | 0 => rfl
  | n + 1 => by rw [pls, pls_all p hp n, hp n, List.range_succ]; rfl
theorem pls_non (p : Nat → Bool) (hp : ∀ i, p i = false) : ∀ n, pls p n = []
  | 0 => rfl
  | n + 1 => by rw [pls, pls_non p hp n, hp n]; rfl
theorem plsEvery {W : World} (h : Idx W N n ms es mb fk fl lv t oc fo) (value key : ByteArray) : PL W N (.slice (some es) n n) (pls (fun i => onP 1 value (lv i key)) n) := by
  rw [pls_all _ (fun i => onP1 _ _)]
  refine ⟨some es, n, by simp, fun j hj => ⟨es, rfl, h.elt, ?_⟩⟩
  simp only [List.length_range] at hj
  rw [h.every j hj]
  simp
theorem plsNone {W : World} {kind : Int} {value key : ByteArray} (k1 : kind ≠ 1) (k2 : kind ≠ 2) (k3 : kind ≠ 3) : PL W N (.slice none 0 0) (pls (fun i => onP kind value (lv i key)) n) := by
  rw [pls_non _ (fun i => onP0 _ _ k1 k2 k3)]
  exact ⟨none, 0, rfl, fun j hj => absurd hj (by simp)⟩

set_option maxHeartbeats 1600000 in
theorem places24 (kind : Int) (key value : ByteArray) (W : World) (h : Idx W N n ms es mb fk fl lv t oc fo) (hk : key.size ≤ 9223372036854775807) (hv : value.size ≤ 9223372036854775807) :
    Calls Try.prog 24 #[.pointer (some ⟨N + 3, 0, none⟩), .agg #[.int .i64 kind, .string key, .string value]] W fun e w' => (∃ v, e = .returned v ∧ PL W N v (pls (fun i => onP kind value (lv i key)) n)) ∧ Below W.heap.size W w' := by
  have hs53 := cells53
  have hs51 := cells51
  have h' := h.below (w' := W.alloc (.cells #[.int .i64 kind, .string key, .string value] 53)) ((Below.refl _ _).alloc (Nat.le_refl _) _)
  have c1 := h'.c1
  have c2 := h'.c2
  have c3 := h'.c3
  by_cases k1 : kind = 1
  · subst k1
    have HP : Hid (PL W N (.slice (some es) n n) (pls (fun i => onP 1 value (lv i key)) n)) := plsEvery h value key
    clear h h' c2 c3
    go_enter Try.func24, Try.ntmps24
    go_wp2
    go_ret
    exact ⟨⟨_, rfl, HP.out⟩, (Below.refl _ _).alloc (Nat.le_refl _) _⟩
  by_cases k2 : kind = 2
  · subst k2
    obtain ⟨c, k, hkey⟩ := h'.key
    have hlook := fun q => (hkey.same (w' := World.drewN _ q) (by rw [World.heap_drewN])).look K9 Try.underlying40 (zero39 _) (key9 hk)
    have HP : Hid (PL W N ((fk (.string key)).getD (.slice none 0 0)) (pls (fun i => onP 2 value (lv i key)) n)) := by
      have := h.kp key
      show PL _ _ _ _
      simpa only [onP2] using this
    generalize (fk (.string key)).getD (.slice none 0 0) = vv at hlook HP
    clear h hkey h' c1 c2
    go_enter Try.func24, Try.ntmps24
    go_wp2
    go_quiet (fail)
    go_wp2
    go_ret
    exact ⟨⟨_, rfl, HP.out⟩, below_drewN' ((Below.refl _ _).alloc (Nat.le_refl _) _) _⟩
  by_cases k3 : kind = 3
  · subst k3
    obtain ⟨c, k, hkey⟩ := h'.lbl
    have hlook := fun q => (hkey.same (w' := World.drewN _ q) (by rw [World.heap_drewN])).look K51 Try.underlying56 (zero39 _) (key51 hk hv)
    have HP : Hid (PL W N ((fl (.agg #[.string key, .string value])).getD (.slice none 0 0)) (pls (fun i => onP 3 value (lv i key)) n)) := by
      have := h.lp key value
      show PL _ _ _ _
      simpa only [onP3] using this
    generalize (fl (.agg #[.string key, .string value])).getD (.slice none 0 0) = vv at hlook HP
    clear h hkey h' c1 c3
    go_enter Try.func24, Try.ntmps24
    go_wp2
    go_quiet (fail)
    go_wp2
    go_ret
    exact ⟨⟨_, rfl, HP.out⟩, below_drewN' ((Below.refl _ _).alloc (Nat.le_refl _) _) _⟩
  have HP : Hid (PL W N (.slice none 0 0) (pls (fun i => onP kind value (lv i key)) n)) := plsNone k1 k2 k3
  clear h h' c1 c2 c3
  go_enter Try.func24, Try.ntmps24
  go_wp2
  go_ret
  exact ⟨⟨_, rfl, HP.out⟩, (Below.refl _ _).alloc (Nat.le_refl _) _⟩

set_option maxHeartbeats 1600000 in
theorem on25 (kind : Int) (key value : ByteArray) (j : Nat) (W : World) (h : Idx W N n ms es mb fk fl lv t oc fo) (hk : key.size ≤ 9223372036854775807) (hj : j < n) (hn : n ≤ 1048576) :
    Calls Try.prog 25 #[.pointer (some ⟨N + 3, 0, none⟩), .agg #[.int .i64 kind, .string key, .string value], .int .i64 j] W fun e w' => e = .returned (.bool (onP kind value (lv j key))) ∧ Below W.heap.size W w' := by
  have hs53 := cells53
  have hs51 := cells51
  have h' := h.below (w' := W.alloc (.cells #[.int .i64 kind, .string key, .string value] 53)) ((Below.refl _ _).alloc (Nat.le_refl _) _)
  have c0 := h'.c0
  have cm := h'.maps j hj
  obtain ⟨_, c, k, f, hm, hf⟩ := h'.mp j hj
  have hlook := fun q => (hm.same (w' := World.drewN _ q) (by rw [World.heap_drewN])).look_ok K9 Try.underlying43 (zero9 _) (key9 hk)
  rw [hf] at hlook
  generalize lv j key = o at hlook
  clear h h' hm hf
  cases o with
  | none =>
    simp only [Option.map_none, Option.getD_none, Option.isSome_none] at hlook
    by_cases k1 : kind = 1
    · subst k1
      go_enter Try.func25, Try.ntmps25
      go_wp2
      go_quiet (fail)
      go_wp2
      go_ret
      exact ⟨ret_bool (by rw [onP1]), below_drewN' ((Below.refl _ _).alloc (Nat.le_refl _) _) _⟩
    by_cases k2 : kind = 2
    · subst k2
      go_enter Try.func25, Try.ntmps25
      go_wp2
      go_quiet (fail)
      go_wp2
      go_ret
      exact ⟨ret_bool (by rw [onP2]; rfl), below_drewN' ((Below.refl _ _).alloc (Nat.le_refl _) _) _⟩
    by_cases k3 : kind = 3
    · subst k3
      go_enter Try.func25, Try.ntmps25
      go_wp2
      go_quiet (fail)
      go_wp2
      go_ret
      exact ⟨ret_bool (by rw [onP3]; simp), below_drewN' ((Below.refl _ _).alloc (Nat.le_refl _) _) _⟩
    go_enter Try.func25, Try.ntmps25
    go_wp2
    go_quiet (fail)
    go_wp2
    go_ret
    exact ⟨ret_bool (by rw [onP0 _ _ k1 k2 k3]), below_drewN' ((Below.refl _ _).alloc (Nat.le_refl _) _) _⟩
  | some u =>
    simp only [Option.map_some, Option.getD_some, Option.isSome_some] at hlook
    by_cases k1 : kind = 1
    · subst k1
      go_enter Try.func25, Try.ntmps25
      go_wp2
      go_quiet (fail)
      go_wp2
      go_ret
      exact ⟨ret_bool (by rw [onP1]), below_drewN' ((Below.refl _ _).alloc (Nat.le_refl _) _) _⟩
    by_cases k2 : kind = 2
    · subst k2
      go_enter Try.func25, Try.ntmps25
      go_wp2
      go_quiet (fail)
      go_wp2
      go_ret
      exact ⟨ret_bool (by rw [onP2]; rfl), below_drewN' ((Below.refl _ _).alloc (Nat.le_refl _) _) _⟩
    by_cases k3 : kind = 3
    · subst k3
      go_enter Try.func25, Try.ntmps25
      go_wp2
      go_quiet (fail)
      go_wp2
      go_ret
      exact ⟨ret_bool (by rw [onP3, bytes_beq]; simp), below_drewN' ((Below.refl _ _).alloc (Nat.le_refl _) _) _⟩
    go_enter Try.func25, Try.ntmps25
    go_wp2
    go_quiet (fail)
    go_wp2
    go_ret
    exact ⟨ret_bool (by rw [onP0 _ _ k1 k2 k3]), below_drewN' ((Below.refl _ _).alloc (Nat.le_refl _) _) _⟩
end
end Go.Proofs.Qxb6601594a.Mem
