import Derived.Test.Qxb6601594aRows
namespace Go.Proofs.Qxb6601594a.Plain
set_option linter.unusedVariables false
set_option linter.unusedSimpArgs false

/-- The value that the last of the first m labels with key k gives it. -/
def lastV (K V : Nat → ByteArray) : Nat → ByteArray → Option ByteArray
  | 0, _ => none
  | m + 1, k => if K m = k then some (V m) else lastV K V m k

theorem lastV_same (K V : Nat → ByteArray) (m : Nat) : lastV K V (m + 1) (K m) = some (V m) := by simp [lastV]
theorem lastV_here (K V : Nat → ByteArray) (m : Nat) {k : ByteArray} (h : K m = k) : lastV K V (m + 1) k = some (V m) := by simp [lastV, h]
theorem lastV_other (K V : Nat → ByteArray) (m : Nat) {k : ByteArray} (h : K m ≠ k) : lastV K V (m + 1) k = lastV K V m k := by simp [lastV, h]
theorem lastV_mem (K V : Nat → ByteArray) (k v : ByteArray) : ∀ m, lastV K V m k = some v → ∃ j, j < m ∧ K j = k ∧ V j = v
  | 0, h => by simp [lastV] at h
  | m + 1, h => by
    by_cases e : K m = k
    · rw [lastV_here K V m e] at h
      exact ⟨m, by omega, e, Option.some.inj h⟩
    · rw [lastV_other K V m e] at h
      obtain ⟨j, h1, h2⟩ := lastV_mem K V k v m h
      exact ⟨j, by omega, h2⟩
theorem lastV_none (K V : Nat → ByteArray) (k : ByteArray) : ∀ m, lastV K V m k = none → ∀ j, j < m → K j ≠ k
  | 0, h, j, hj => absurd hj (by omega)
  | m + 1, h, j, hj => by
    by_cases e : K m = k
    · rw [lastV_here K V m e] at h; cases h
    · rw [lastV_other K V m e] at h
      by_cases ej : j = m
      · subst ej; exact e
      · exact lastV_none K V k m h j (by omega)

/-- Is a role that gives the key what lv says on the list of this kind and value? -/
def onP (kind : Int) (value : ByteArray) (lv : Option ByteArray) : Bool :=
  if kind = 1 then true else if kind = 2 then lv.isSome else if kind = 3 then decide (lv = some value) else false
theorem onP1 (value : ByteArray) (lv : Option ByteArray) : onP 1 value lv = true := by simp [onP]
theorem onP2 (value : ByteArray) (lv : Option ByteArray) : onP 2 value lv = lv.isSome := by simp [onP]
theorem onP3 (value : ByteArray) (lv : Option ByteArray) : onP 3 value lv = decide (lv = some value) := by simp [onP]
theorem onP0 {kind : Int} (value : ByteArray) (lv : Option ByteArray) (h1 : kind ≠ 1) (h2 : kind ≠ 2) (h3 : kind ≠ 3) : onP kind value lv = false := by simp [onP, h1, h2, h3]

/-- How many of the first n places p holds of. -/
def cnt (p : Nat → Bool) : Nat → Nat
  | 0 => 0
  | n + 1 => cnt p n + if p n then 1 else 0
theorem cnt_le (p : Nat → Bool) : ∀ n, cnt p n ≤ n
  | 0 => Nat.le_refl _
  | n + 1 => by
    have := cnt_le p n
    unfold cnt
    split <;> omega
theorem cnt_congr {p q : Nat → Bool} : ∀ {n}, (∀ i, i < n → p i = q i) → cnt p n = cnt q n
  | 0, _ => rfl
  | n + 1, h => by
    unfold cnt
    rw [cnt_congr (fun i hi => h i (by omega)), h n (by omega)]

/-- The places among the first n that p holds of, in order. -/
def pls (p : Nat → Bool) : Nat → List Nat
  | 0 => []
  | n + 1 => pls p n ++ if p n then [n] else []
theorem pls_length (p : Nat → Bool) : ∀ n, (pls p n).length = cnt p n
  | 0 => rfl
  | n + 1 => by
    simp only [pls, cnt, List.length_append, pls_length p n]
    split <;> rfl
theorem pls_mem (p : Nat → Bool) : ∀ n j, j ∈ pls p n → j < n ∧ p j = true
  | 0, j, h => by simp [pls] at h
  | n + 1, j, h => by
    simp only [pls, List.mem_append] at h
    rcases h with h | h
    · have := pls_mem p n j h
      exact ⟨by omega, this.2⟩
    · split at h
      · simp at h; subst h; rename_i hp; exact ⟨by omega, hp⟩
      · simp at h

/-- How many on a list hold q. -/
def cntL (q : Nat → Bool) : List Nat → Nat
  | [] => 0
  | a :: r => (if q a then 1 else 0) + cntL q r
theorem cntL_append (q : Nat → Bool) : ∀ l l', cntL q (l ++ l') = cntL q l + cntL q l'
  | [], l' => by simp [cntL]
  | a :: r, l' => by simp [cntL, cntL_append q r l']; omega
theorem cntL_pls (p q : Nat → Bool) : ∀ n, cntL q (pls p n) = cnt (fun i => p i && q i) n
  | 0 => rfl
  | n + 1 => by
    simp only [pls, cnt, cntL_append, cntL_pls p q n]
    by_cases hp : p n = true
    · by_cases hq : q n = true <;> simp [hp, hq, cntL]
    · simp [hp, cntL]
theorem cntL_le (q : Nat → Bool) : ∀ l, cntL q l ≤ l.length
  | [] => Nat.le_refl _
  | a :: r => by
    have := cntL_le q r
    simp only [cntL, List.length_cons]
    split <;> omega

end Go.Proofs.Qxb6601594a.Plain
