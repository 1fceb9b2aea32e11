import Derived.Test.Qxb6601594aPlain
namespace Go.Proofs.Qxb6601594a.Plain
set_option linter.unusedVariables false
set_option linter.unusedSimpArgs false

/-- A group: a key's, or a pair's. -/
abbrev G := ByteArray × Option ByteArray

/-- Is a role that gives the group's key what o says in the group? -/
def onB (g : G) (o : Option ByteArray) : Bool := match g.2 with | none => o.isSome | some u => decide (o = some u)

/-- Label j of a role puts the role into the group g. -/
def hit (K V : Nat → ByteArray) (m : Nat) (g : G) (j : Nat) : Prop := K j = g.1 ∧ lastV K V m (K j) = some (V j) ∧ (g.2 = none ∨ g.2 = some (V j))
def hitB (K V : Nat → ByteArray) (m : Nat) (g : G) (j : Nat) : Bool := decide (K j = g.1) && (decide (lastV K V m (K j) = some (V j)) && (decide (g.2 = none) || decide (g.2 = some (V j))))
/-- One of the first i labels puts the role into the group g. -/
def seenB (K V : Nat → ByteArray) (m : Nat) (g : G) : Nat → Bool
  | 0 => false
  | i + 1 => seenB K V m g i || hitB K V m g i
abbrev seenG (K V : Nat → ByteArray) (m : Nat) (g : G) (i : Nat) : Prop := seenB K V m g i = true

/-- The places in group g: those of the first r roles, and r if one of the first i labels of role r says so. -/
def psG (lv : Nat → ByteArray → Option ByteArray) (K V : Nat → ByteArray) (m r i : Nat) (g : G) : List Nat := pls (fun j => onB g (lv j g.1)) r ++ if seenG K V m g i then [r] else []

section
variable {lv : Nat → ByteArray → Option ByteArray} {K V : Nat → ByteArray} {m r i : Nat}

theorem hitB_iff (g : G) (j : Nat) : hitB K V m g j = true ↔ hit K V m g j := by simp [hitB, hit]
theorem seenG_zero (g : G) : ¬ seenG K V m g 0 := by simp [seenG, seenB]
theorem psG_zero : psG lv K V m r 0 = fun g => pls (fun j => onB g (lv j g.1)) r := by
  funext g
  simp [psG, seenG_zero]
theorem seenG_succ (g : G) : seenG K V m g (i + 1) ↔ seenG K V m g i ∨ hit K V m g i := by
  rw [← hitB_iff]
  simp [seenG, seenB]
theorem seenG_ex (g : G) : ∀ i, seenG K V m g i ↔ ∃ j, j < i ∧ hit K V m g j
  | 0 => ⟨fun h => absurd h (seenG_zero g), fun ⟨j, h, _⟩ => absurd h (by omega)⟩
  | i + 1 => by
    rw [seenG_succ, seenG_ex g i]
    constructor
    · rintro (⟨j, h1, h2⟩ | h)
      · exact ⟨j, by omega, h2⟩
      · exact ⟨i, by omega, h⟩
    · rintro ⟨j, h1, h2⟩
      by_cases e : j = i
      · subst e; exact .inr h2
      · exact .inl ⟨j, by omega, h2⟩
theorem seenG_end (g : G) : seenG K V m g m ↔ onB g (lastV K V m g.1) = true := by
  rw [seenG_ex]
  obtain ⟨s, o⟩ := g
  constructor
  · rintro ⟨j, h1, h2, h3, h4⟩
    simp only at h2 h4
    rw [h2] at h3
    rcases h4 with h4 | h4 <;> subst h4 <;> simp [onB, h3]
  · intro h
    cases hl : lastV K V m s with
    | none => cases o <;> simp [onB, hl] at h
    | some v =>
      obtain ⟨j, h1, h2, h3⟩ := lastV_mem K V s v m hl
      refine ⟨j, h1, h2, by rw [h2, hl, h3], ?_⟩
      cases o with
      | none => exact .inl rfl
      | some u =>
        simp [onB, hl] at h
        right
        show some u = some (V j)
        rw [h3, ← h]
theorem psG_end (hr : lv r = lastV K V m) : psG lv K V m r m = fun g => pls (fun j => onB g (lv j g.1)) (r + 1) := by
  funext g
  have h := seenG_end (K := K) (V := V) (m := m) g
  simp only [psG, pls, hr]
  by_cases hs : seenG K V m g m
  · rw [if_pos hs, if_pos (h.1 hs)]
  · rw [if_neg hs, if_neg (fun x => hs (h.2 x))]
theorem hit_iff (g : G) : hit K V m g i ↔ lastV K V m (K i) = some (V i) ∧ (g = (K i, none) ∨ g = (K i, some (V i))) := by
  obtain ⟨s, o⟩ := g
  simp only [hit, Prod.mk.injEq]
  constructor
  · rintro ⟨h1, h2, h3⟩
    exact ⟨h2, by rcases h3 with h3 | h3 <;> simp [h1, h3]⟩
  · rintro ⟨h1, h2 | h2⟩
    · exact ⟨h2.1.symm, h1, .inl h2.2⟩
    · exact ⟨h2.1.symm, h1, .inr h2.2⟩
theorem psG_skip (h : lastV K V m (K i) ≠ some (V i)) : psG lv K V m r (i + 1) = psG lv K V m r i := by
  funext g
  have : seenG K V m g (i + 1) ↔ seenG K V m g i := by rw [seenG_succ, hit_iff]; simp [h]
  simp only [psG]
  by_cases hs : seenG K V m g i
  · rw [if_pos hs, if_pos (this.2 hs)]
  · rw [if_neg hs, if_neg (fun x => hs (this.1 x))]
theorem psG_other (g : G) (h1 : g ≠ (K i, none)) (h2 : g ≠ (K i, some (V i))) : psG lv K V m r (i + 1) g = psG lv K V m r i g := by
  have : seenG K V m g (i + 1) ↔ seenG K V m g i := by rw [seenG_succ, hit_iff]; simp [h1, h2]
  simp only [psG]
  by_cases hs : seenG K V m g i
  · rw [if_pos hs, if_pos (this.2 hs)]
  · rw [if_neg hs, if_neg (fun x => hs (this.1 x))]
theorem psG_seen {g : G} (h : seenG K V m g i) : psG lv K V m r i g = pls (fun j => onB g (lv j g.1)) r ++ [r] := by simp [psG, h]
theorem psG_unseen {g : G} (h : ¬ seenG K V m g i) : psG lv K V m r i g = pls (fun j => onB g (lv j g.1)) r := by simp [psG, h]
theorem psG_hit {g : G} (hl : lastV K V m (K i) = some (V i)) (hg : g = (K i, none) ∨ g = (K i, some (V i))) : psG lv K V m r (i + 1) g = pls (fun j => onB g (lv j g.1)) r ++ [r] :=
  psG_seen ((seenG_succ g).2 (.inr ((hit_iff g).2 ⟨hl, hg⟩)))
theorem psG_len (g : G) : (psG lv K V m r i g).length ≤ r + 1 := by
  have : (pls (fun j => onB g (lv j g.1)) r).length ≤ r := by rw [pls_length]; exact cnt_le _ _
  simp only [psG, List.length_append]
  split <;> simp <;> omega

/-- f with x at g. -/
def updG {α : Type} (f : G → α) (g : G) (x : α) : G → α := fun h => if h = g then x else f h
theorem updG_same {α : Type} (f : G → α) (g : G) (x : α) : updG f g x g = x := by simp [updG]
theorem updG_other {α : Type} (f : G → α) {g h : G} (x : α) (hne : h ≠ g) : updG f g x h = f h := by simp [updG, hne]
theorem updG_id {α : Type} (f : G → α) (g : G) : updG f g (f g) = f := by
  funext h
  by_cases e : h = g
  · subst e; rw [updG_same]
  · rw [updG_other _ _ e]

/-- What a group's places become at label i, where that is the last of its key. -/
def nxt (lv : Nat → ByteArray → Option ByteArray) (K V : Nat → ByteArray) (m r i : Nat) (g : G) : List Nat := if seenG K V m g i then psG lv K V m r i g else psG lv K V m r i g ++ [r]
theorem psG_step (hl : lastV K V m (K i) = some (V i)) :
    updG (updG (psG lv K V m r i) (K i, none) (nxt lv K V m r i (K i, none))) (K i, some (V i)) (nxt lv K V m r i (K i, some (V i))) = psG lv K V m r (i + 1) := by
  have hn : ∀ g : G, g = (K i, none) ∨ g = (K i, some (V i)) → nxt lv K V m r i g = psG lv K V m r (i + 1) g := by
    intro g hg
    rw [psG_hit hl hg]
    unfold nxt
    split
    · rename_i h; rw [psG_seen h]
    · rename_i h; rw [psG_unseen h]
  funext g
  by_cases e2 : g = (K i, some (V i))
  · rw [e2, updG_same]; exact hn _ (.inr rfl)
  · rw [updG_other _ _ e2]
    by_cases e1 : g = (K i, none)
    · rw [e1, updG_same]; exact hn _ (.inl rfl)
    · rw [updG_other _ _ e1]; exact (psG_other g e1 e2).symm
/-- The last place of a group tells whether role r is in it. -/
theorem psG_last_seen {g : G} (h : seenG K V m g i) : ∃ q, (psG lv K V m r i g).length = q + 1 ∧ (psG lv K V m r i g)[q]? = some r := by
  rw [psG_seen h]
  refine ⟨(pls (fun j => onB g (lv j g.1)) r).length, by simp, by simp⟩
theorem psG_last_unseen {g : G} (h : ¬ seenG K V m g i) {q x : Nat} (hx : (psG lv K V m r i g)[q]? = some x) : x < r := by
  rw [psG_unseen h] at hx
  exact (pls_mem _ _ _ (List.mem_of_getElem? hx)).1
end
end Go.Proofs.Qxb6601594a.Plain
