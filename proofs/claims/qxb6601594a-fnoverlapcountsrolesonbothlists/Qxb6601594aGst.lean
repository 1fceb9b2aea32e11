import Derived.Test.Qxb6601594aBst
namespace Go.Proofs.Qxb6601594a.Mem
open Go.ChangeShapes Go.WideShapes Go.ChangeAt Go.RowKit Go.Maps
open Go.Proofs.Qxb6601594a.Plain Go.Proofs.Qxb6601594a.Map
set_option linter.unusedVariables false
set_option linter.unusedSimpArgs false

/-- What zzBuild has gathered: the two maps of groups, the two lists of their keys. -/
structure Gs (W w : World) (Q : Nat) (kv pv : Value) (ps : G → List Nat) (tg : Nat → G) (val : G → Value) (fk fl : Value → Option Value) (ks : List ByteArray) (pr : List (ByteArray × ByteArray)) : Prop where
  bl : Below W.heap.size W w
  sz : W.heap.size + 4 ≤ w.heap.size
  rw : Rw w (W.heap.size + 4) tg val ps
  key : ∃ q c, q ≤ Q ∧ MapIs w 9 (W.heap.size + 2) q c fk
  lab : ∃ q c, q ≤ Q ∧ MapIs w 36 (W.heap.size + 3) q c fl
  kval : ∀ s, (fk (.string s)).getD (.slice none 0 0) = val (s, none)
  lval : ∀ s u, (fl (.agg #[.string s, .string u])).getD (.slice none 0 0) = val (s, some u)
  keys : w.ownsRow (W.heap.size + 4) 9 1 kv ks.length (strs ks)
  pairs : w.ownsRow (W.heap.size + 4) 36 2 pv pr.length (prs pr)
  kin : ∀ s, fk (.string s) ≠ none → s ∈ ks
  lin : ∀ s u, fl (.agg #[.string s, .string u]) ≠ none → (s, u) ∈ pr
  kq : ks.length ≤ Q
  pq : pr.length ≤ Q
  ksz : ∀ s ∈ ks, s.size ≤ 9223372036854775807
  psz : ∀ p ∈ pr, p.1.size ≤ 9223372036854775807 ∧ p.2.size ≤ 9223372036854775807

section
variable {W w w' : World} {Q : Nat} {kv pv : Value} {ps : G → List Nat} {tg : Nat → G} {val : G → Value} {fk fl : Value → Option Value} {ks : List ByteArray} {pr : List (ByteArray × ByteArray)}

theorem Gs.more (h : Gs W w Q kv pv ps tg val fk fl ks pr) {Q' : Nat} (hQ : Q ≤ Q') : Gs W w Q' kv pv ps tg val fk fl ks pr :=
  { h with
    key := by obtain ⟨q, c, h1, h2⟩ := h.key; exact ⟨q, c, by omega, h2⟩
    lab := by obtain ⟨q, c, h1, h2⟩ := h.lab; exact ⟨q, c, by omega, h2⟩
    kq := Nat.le_trans h.kq hQ
    pq := Nat.le_trans h.pq hQ }

/-- Only new blocks. -/
theorem Gs.fresh (h : Gs W w Q kv pv ps tg val fk fl ks pr) (hg : w.grownBy w' none) : Gs W w' Q kv pv ps tg val fk fl ks pr :=
  { h with
    bl := h.bl.grown hg h.bl.size (fun j hj => by cases hj)
    sz := Nat.le_trans h.sz hg.size
    rw := h.rw.kept hg (fun g => by cases (val g).ownBlock <;> simp)
    key := by obtain ⟨q, c, h1, h2⟩ := h.key; exact ⟨q, c, h1, h2.grown hg (by simp)⟩
    lab := by obtain ⟨q, c, h1, h2⟩ := h.lab; exact ⟨q, c, h1, h2.grown hg (by simp)⟩
    keys := own_none h.keys hg
    pairs := own_none h.pairs hg }

theorem grown_alloc (w : World) (o : Obj) : w.grownBy (w.alloc o) none := World.grownBy_alloc w o none
theorem grown_drew (w : World) : w.grownBy w.drew none := ⟨rfl, rfl, rfl, Nat.le_refl _, fun _ _ _ => rfl⟩

theorem own_block {w : World} {B : Nat} {e : TypeId} {size : Nat} {v : Value} {n : Nat} {xs : List Value} (h : w.ownsRow (B + 4) e size v n xs) : ∀ j, v.ownBlock = some j → B ≤ j := fun j hj => by have := (h.lt j hj).1; omega
theorem map_ne {w : World} {B : Nat} {e : TypeId} {size : Nat} {v : Value} {n : Nat} {xs : List Value} (h : w.ownsRow (B + 4) e size v n xs) {c : Nat} (hc : c < B + 4) : v.ownBlock ≠ some c := fun e => by have := (h.lt c e).1; omega

/-- A key's name behind the others. -/
theorem Gs.addKey (h : Gs W w Q kv pv ps tg val fk fl ks pr) (k : ByteArray) (hk : k.size ≤ 9223372036854775807) (hQ : Q ≤ 1000000) :
    ∃ kv' w', (Builtin.append_ #[42, 42] 42 #[kv, .slice (some ⟨w.heap.size, 0, none⟩) 1 1]).run Try.prog (w.alloc (.cells #[.string k] 9)) = .ok kv' w' ∧
      Gs W w' (Q + 1) kv' pv ps tg val fk fl (ks ++ [k]) pr ∧ ∀ n rm re mb lv, Fx w W.heap.size n rm re mb lv → Fx w' W.heap.size n rm re mb lv := by
  obtain ⟨i, hi, hzz⟩ := Option.map_eq_some_iff.1 infoS
  simp only [Prod.mk.injEq] at hzz
  obtain ⟨hz, hs, hb⟩ := hzz
  have h1 := h.fresh (grown_alloc w (.cells #[.string k] 9))
  have hl := h.kq
  have hlg : ks.length + 1 ≤ maxLen := by simp only [maxLen]; omega
  obtain ⟨v', w', hr, ho, hg, _, hat⟩ := run_append_own_at (P := Try.prog) (w.alloc (.cells #[.string k] 9)) (W.heap.size + 4) 42 42 9 i _ 1 16 Try.underlying42 hi hz hs hb rfl (by omega) kv _ _ h1.keys
    ⟨w.heap.size, 0, none⟩ 1 1 [.string k] rfl (cell_one_new _ _ _) (by simp [Value.oneCell']) hlg (by omega) h1.sz
  refine ⟨v', w', hr, { h1 with
    bl := h1.bl.grown hg h1.bl.size (own_block h1.keys)
    sz := Nat.le_trans h1.sz hg.size
    rw := h1.rw.kept hg (fun g => own_ne (h1.rw.own g) h1.keys (by decide))
    key := by obtain ⟨q, c, h2, h3⟩ := h1.key; exact ⟨q, c, by omega, h3.grown hg (map_ne h1.keys (by omega))⟩
    lab := by obtain ⟨q, c, h2, h3⟩ := h1.lab; exact ⟨q, c, by omega, h3.grown hg (map_ne h1.keys (by omega))⟩
    keys := ?_
    pairs := h1.pairs.kept hg (own_ne h1.pairs h1.keys (by decide))
    kin := fun s hs => List.mem_append_left _ (h1.kin s hs)
    kq := by simp; omega
    pq := by have := h.pq; omega
    ksz := ?_ }, fun n rm re mb lv hf => (hf.grown (grown_alloc w _) (Okr.none _ _)).grown hg (Okr.own h1.keys)⟩
  · have e1 : strs (ks ++ [k]) = strs ks ++ [.string k] := by simp [strs]
    have e2 : (ks ++ [k]).length = ks.length + 1 := by simp
    rw [e1, e2]
    exact ho
  · intro s hs
    rcases List.mem_append.1 hs with h2 | h2
    · exact h.ksz s h2
    · simp at h2; subst h2; exact hk

/-- A pair behind the others. -/
theorem Gs.addPair (h : Gs W w Q kv pv ps tg val fk fl ks pr) (k u : ByteArray) (hk : k.size ≤ 9223372036854775807) (hu : u.size ≤ 9223372036854775807) (hQ : Q ≤ 1000000) :
    ∃ pv' w', (Builtin.append_ #[34, 34] 34 #[pv, .slice (some ⟨w.heap.size, 0, none⟩) 1 1]).run Try.prog (w.alloc (.cells #[.string k, .string u] 36)) = .ok pv' w' ∧
      Gs W w' (Q + 1) kv pv' ps tg val fk fl ks (pr ++ [(k, u)]) ∧ (∀ n rm re mb lv, Fx w W.heap.size n rm re mb lv → Fx w' W.heap.size n rm re mb lv) ∧ w.grownBy w' pv.ownBlock := by
  obtain ⟨i, hi, hzz⟩ := Option.map_eq_some_iff.1 infoL
  simp only [Prod.mk.injEq] at hzz
  obtain ⟨hz, hs, hb⟩ := hzz
  have h1 := h.fresh (grown_alloc w (.cells #[.string k, .string u] 36))
  have hl := h.pq
  have hlg : pr.length + 1 ≤ maxLen := by simp only [maxLen]; omega
  have hnews : ∀ j x, [Value.string k, Value.string u][j]? = some x → (w.alloc (.cells #[.string k, .string u] 36)).cell? ((⟨w.heap.size, 0, none⟩ : Addr).add j) = some x := by
    intro j x hj
    match j, hj with
    | 0, hj => simp at hj; subst hj; simp [Addr.add]
    | 1, hj => simp at hj; subst hj; simp [Addr.add]
  obtain ⟨v', w', hr, ho, hg, _, hat⟩ := run_append_own_at (P := Try.prog) (w.alloc (.cells #[.string k, .string u] 36)) (W.heap.size + 4) 34 34 36 i _ 2 32 Try.underlying34 hi hz hs hb rfl (by omega) pv _ _ h1.pairs
    ⟨w.heap.size, 0, none⟩ 1 1 [.string k, .string u] rfl hnews (by simp [Value.oneCell']) hlg (by omega) h1.sz
  refine ⟨v', w', hr, { h1 with
    bl := h1.bl.grown hg h1.bl.size (own_block h1.pairs)
    sz := Nat.le_trans h1.sz hg.size
    rw := h1.rw.kept hg (fun g => own_ne (h1.rw.own g) h1.pairs (by decide))
    key := by obtain ⟨q, c, h2, h3⟩ := h1.key; exact ⟨q, c, by omega, h3.grown hg (map_ne h1.pairs (by omega))⟩
    lab := by obtain ⟨q, c, h2, h3⟩ := h1.lab; exact ⟨q, c, by omega, h3.grown hg (map_ne h1.pairs (by omega))⟩
    keys := h1.keys.kept hg (own_ne h1.keys h1.pairs (by decide))
    pairs := ?_
    lin := fun s u hs => List.mem_append_left _ (h1.lin s u hs)
    kq := by have := h.kq; omega
    pq := by simp; omega
    psz := ?_ }, fun n rm re mb lv hf => (hf.grown (grown_alloc w _) (Okr.none _ _)).grown hg (Okr.own h1.pairs), ?_⟩
  · have e2 : (pr ++ [(k, u)]).length = pr.length + 1 := by simp
    rw [prs_append, e2]
    exact ho
  · intro p hp
    rcases List.mem_append.1 hp with h2 | h2
    · exact h.psz p h2
    · simp at h2; subst h2; exact ⟨hk, hu⟩
  · exact (World.grownBy_alloc w _ _).trans hg

/-- Role x behind the others in a key's group. -/
theorem Gs.putKey [DecidableEq Value] (h : Gs W w Q kv pv ps tg val fk fl ks pr) (k : ByteArray) (x : Nat) (hk : k.size ≤ 9223372036854775807) (hQ : Q ≤ 1000000) (hl : (ps (k, none)).length ≤ 1000000) (hin : k ∈ ks) :
    ∃ v' w1 w2 tg', (Builtin.append_ #[39, 39] 39 #[val (k, none), .slice (some ⟨w.heap.size, 0, none⟩) 1 1]).run Try.prog (w.alloc (.cells #[.int .i64 (x : Int)] 3)) = .ok v' w1 ∧
      (Instr.mapUpdate 40 (.map (some (W.heap.size + 2))) (.string k) v').run Try.prog w1 = .ok () w2 ∧
      Gs W w2 (Q + 1) kv pv (updG ps (k, none) (ps (k, none) ++ [x])) tg' (updG val (k, none) v') (upd fk (.string k) v') fl ks pr ∧ (∀ n rm re mb lv, Fx w W.heap.size n rm re mb lv → Fx w2 W.heap.size n rm re mb lv) := by
  obtain ⟨v', w1, tg', hr, hR, hg, _⟩ := h.rw.append (k, none) x hl h.sz
  have h1 := h.fresh (grown_alloc w (.cells #[.int .i64 (x : Int)] 3))
  obtain ⟨q, c, hq, hm⟩ := h1.key
  have hm1 := hm.grown hg (map_ne (h1.rw.own _) (by omega))
  obtain ⟨w2, hr2, hm2, hg2, hs2⟩ := hm1.store K9 Try.underlying40 (by simp only [maxLen]; omega) (key9 hk) v'
  have lt1 : W.heap.size + 4 ≤ w1.heap.size := Nat.le_trans h1.sz hg.size
  have b1 := h1.bl.grown hg h1.bl.size (own_block (h1.rw.own _))
  have k1 := h1.keys.kept hg (own_ne h1.keys (h1.rw.own (k, none)) (by decide))
  have p1 := h1.pairs.kept hg (own_ne h1.pairs (h1.rw.own (k, none)) (by decide))
  refine ⟨v', w1, w2, tg', hr, hr2, {
    bl := b1.grown hg2 b1.size (fun j hj => by cases hj; omega)
    sz := by omega
    rw := hR.kept hg2 (fun g => own_low (hR.own g) (by omega))
    key := ⟨q + 1, _, by omega, hm2⟩
    lab := by obtain ⟨q, c, h2, h3⟩ := h1.lab; exact ⟨q, c, by omega, (h3.grown hg (map_ne (h1.rw.own _) (by omega))).grown hg2 (by simp)⟩
    kval := fun s => ?_
    lval := fun s u => by rw [updG_other _ _ (by simp)]; exact h.lval s u
    keys := k1.kept hg2 (own_low k1 (by omega))
    pairs := p1.kept hg2 (own_low p1 (by omega))
    kin := fun s hs => ?_
    lin := h.lin
    kq := by have := h.kq; omega
    pq := by have := h.pq; omega
    ksz := h.ksz
    psz := h.psz }, fun n rm re mb lv hf => ((hf.grown (grown_alloc w _) (Okr.none _ _)).grown hg (Okr.own (h1.rw.own _))).grown hg2 (fun b hb => by cases hb; exact .inl rfl)⟩
  · by_cases e : s = k
    · subst e; rw [upd_same, updG_same]; rfl
    · rw [upd_other _ _ (by simpa using e), updG_other _ _ (by simpa using e)]; exact h.kval s
  · by_cases e : s = k
    · subst e; exact hin
    · rw [upd_other _ _ (by simpa using e)] at hs; exact h.kin s hs

/-- Role x behind the others in a pair's group. -/
theorem Gs.putLab [DecidableEq Value] (h : Gs W w Q kv pv ps tg val fk fl ks pr) (k u : ByteArray) (x : Nat) (hk : k.size ≤ 9223372036854775807) (hu : u.size ≤ 9223372036854775807) (hQ : Q ≤ 1000000) (hl : (ps (k, some u)).length ≤ 1000000) (hin : (k, u) ∈ pr) :
    ∃ v' w1 w2 tg', (Builtin.append_ #[39, 39] 39 #[val (k, some u), .slice (some ⟨w.heap.size, 0, none⟩) 1 1]).run Try.prog (w.alloc (.cells #[.int .i64 (x : Int)] 3)) = .ok v' w1 ∧
      (Instr.mapUpdate 41 (.map (some (W.heap.size + 3))) (.agg #[.string k, .string u]) v').run Try.prog w1 = .ok () w2 ∧
      Gs W w2 (Q + 1) kv pv (updG ps (k, some u) (ps (k, some u) ++ [x])) tg' (updG val (k, some u) v') fk (upd fl (.agg #[.string k, .string u]) v') ks pr ∧ (∀ n rm re mb lv, Fx w W.heap.size n rm re mb lv → Fx w2 W.heap.size n rm re mb lv) ∧
      (w.alloc (.cells #[.int .i64 (x : Int)] 3)).grownBy w1 (val (k, some u)).ownBlock ∧ w1.grownBy w2 (some (W.heap.size + 3)) := by
  obtain ⟨v', w1, tg', hr, hR, hg, _⟩ := h.rw.append (k, some u) x hl h.sz
  have h1 := h.fresh (grown_alloc w (.cells #[.int .i64 (x : Int)] 3))
  obtain ⟨q, c, hq, hm⟩ := h1.lab
  have hm1 := hm.grown hg (map_ne (h1.rw.own _) (by omega))
  obtain ⟨w2, hr2, hm2, hg2, hs2⟩ := hm1.store K36 Try.underlying41 (by simp only [maxLen]; omega) (key36 hk hu) v'
  have lt1 : W.heap.size + 4 ≤ w1.heap.size := Nat.le_trans h1.sz hg.size
  have b1 := h1.bl.grown hg h1.bl.size (own_block (h1.rw.own _))
  have k1 := h1.keys.kept hg (own_ne h1.keys (h1.rw.own (k, some u)) (by decide))
  have p1 := h1.pairs.kept hg (own_ne h1.pairs (h1.rw.own (k, some u)) (by decide))
  refine ⟨v', w1, w2, tg', hr, hr2, {
    bl := b1.grown hg2 b1.size (fun j hj => by cases hj; omega)
    sz := by omega
    rw := hR.kept hg2 (fun g => own_low (hR.own g) (by omega))
    key := by obtain ⟨q, c, h2, h3⟩ := h1.key; exact ⟨q, c, by omega, (h3.grown hg (map_ne (h1.rw.own _) (by omega))).grown hg2 (by simp)⟩
    lab := ⟨q + 1, _, by omega, hm2⟩
    kval := fun s => by rw [updG_other _ _ (by simp)]; exact h.kval s
    lval := fun s u' => ?_
    keys := k1.kept hg2 (own_low k1 (by omega))
    pairs := p1.kept hg2 (own_low p1 (by omega))
    kin := h.kin
    lin := fun s u' hs => ?_
    kq := by have := h.kq; omega
    pq := by have := h.pq; omega
    ksz := h.ksz
    psz := h.psz }, fun n rm re mb lv hf => ((hf.grown (grown_alloc w _) (Okr.none _ _)).grown hg (Okr.own (h1.rw.own _))).grown hg2 (fun b hb => by cases hb; exact .inr (.inl rfl)), hg, hg2⟩
  · by_cases e : s = k ∧ u' = u
    · obtain ⟨rfl, rfl⟩ := e; rw [upd_same, updG_same]; rfl
    · rw [upd_other _ _ (by simpa using e), updG_other _ _ (by simpa using e)]; exact h.lval s u'
  · by_cases e : s = k ∧ u' = u
    · obtain ⟨rfl, rfl⟩ := e; exact hin
    · rw [upd_other _ _ (by simpa using e)] at hs; exact h.lin s u' hs
end
end Go.Proofs.Qxb6601594a.Mem
