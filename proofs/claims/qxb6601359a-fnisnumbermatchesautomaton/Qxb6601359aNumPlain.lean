import Derived.RowKit
/-! Plain mathematics of JSON's number grammar: no Go in sight. -/
namespace Go.Proofs.Qxb6601359a.NumPlain

def isd (c : Int) : Bool := decide (48 ≤ c ∧ c ≤ 57)
def isx (c : Int) : Bool := decide (c = 101 ∨ c = 69)
def isg (c : Int) : Bool := decide (c = 43 ∨ c = 45)
/-- One step of the automaton. -/
def st (s c : Int) : Int :=
  if s = 0 then (if c = 45 then 1 else if c = 48 then 2 else if isd c = true then 3 else 9)
  else if s = 1 then (if c = 48 then 2 else if isd c = true then 3 else 9)
  else if s = 2 then (if c = 46 then 4 else if isx c = true then 6 else 9)
  else if s = 3 then (if isd c = true then 3 else if c = 46 then 4 else if isx c = true then 6 else 9)
  else if s = 4 then (if isd c = true then 5 else 9)
  else if s = 5 then (if isd c = true then 5 else if isx c = true then 6 else 9)
  else if s = 6 then (if isg c = true then 7 else if isd c = true then 8 else 9)
  else if s = 7 ∨ s = 8 then (if isd c = true then 8 else 9)
  else 9
def stl (s : Int) (l : List UInt8) : Int := l.foldl (fun s c => st s c.toNat) s
def acc (s : Int) : Bool := decide (s = 2 ∨ s = 3 ∨ s = 5 ∨ s = 8)

/-- What is left behind the leading digits. -/
def past (l : List UInt8) : List UInt8 := l.dropWhile fun c => isd c.toNat
/-- How many leading digits. -/
def run (l : List UInt8) : Nat := (l.takeWhile fun c => isd c.toNat).length
/-- behind an exponent's sign -/
def p5 (l : List UInt8) : Bool := run l != 0 && (past l).isEmpty
/-- behind an exponent's mark -/
def p4 : List UInt8 → Bool
  | c :: t => if isg c.toNat = true then p5 t else p5 (c :: t)
  | [] => p5 []
/-- at the exponent -/
def p3 : List UInt8 → Bool
  | c :: t => if isx c.toNat = true then p4 t else false
  | [] => true
/-- at the fraction -/
def p2 : List UInt8 → Bool
  | c :: t => if (c.toNat : Int) = 46 then (run t != 0 && p3 (past t)) else p3 (c :: t)
  | [] => true
/-- at the integer -/
def p1 : List UInt8 → Bool
  | c :: t => if (c.toNat : Int) = 48 then p2 t else (run (c :: t) != 0 && p2 (past (c :: t)))
  | [] => false
/-- 'isNumber' -/
def p0 : List UInt8 → Bool
  | c :: t => if (c.toNat : Int) = 45 then p1 t else p1 (c :: t)
  | [] => p1 []

theorem st_range (s c : Int) : 0 ≤ st s c ∧ st s c ≤ 9 := by
  unfold st
  repeat' split
  all_goals omega
theorem past_cons (c : UInt8) (t : List UInt8) : past (c :: t) = if isd c.toNat = true then past t else c :: t := by
  unfold past; rw [List.dropWhile_cons]
theorem run_cons (c : UInt8) (t : List UInt8) : run (c :: t) = if isd c.toNat = true then run t + 1 else 0 := by
  unfold run; rw [List.takeWhile_cons]; split <;> simp
theorem stl_cons (s : Int) (c : UInt8) (t : List UInt8) : stl s (c :: t) = stl (st s c.toNat) t := rfl
theorem stl_nil (s : Int) : stl s [] = s := rfl
theorem a9 (l : List UInt8) : acc (stl 9 l) = false := by
  induction l with
  | nil => rfl
  | cons c t ih => rw [stl_cons]; simpa [st] using ih
theorem a8 (l : List UInt8) : acc (stl 8 l) = (past l).isEmpty := by
  induction l with
  | nil => rfl
  | cons c t ih =>
    rw [stl_cons, past_cons]
    cases h : isd (c.toNat : Int)
    · simp [st, h, a9]
    · simp [st, h, ih]
theorem a7 (l : List UInt8) : acc (stl 7 l) = p5 l := by
  cases l with
  | nil => rfl
  | cons c t =>
    rw [stl_cons, p5, past_cons, run_cons]
    cases h : isd (c.toNat : Int)
    · simp [st, h, a9]
    · simp [st, h, a8]
theorem isg_not (c : Int) (h : isd c = true) : isg c = false ∧ isx c = false ∧ ¬ c = 46 ∧ ¬ c = 45 := by
  simp [isd] at h; simp [isg, isx]; omega
theorem a6 (l : List UInt8) : acc (stl 6 l) = p4 l := by
  cases l with
  | nil => rfl
  | cons c t =>
    rw [stl_cons, p4]
    cases hg : isg (c.toNat : Int)
    · cases h : isd (c.toNat : Int)
      · simp [st, h, hg, a9, p5, run_cons]
      · simp [st, h, hg, a8, p5, run_cons, past_cons]
    · simp [st, hg, a7]
theorem a5 (l : List UInt8) : acc (stl 5 l) = p3 (past l) := by
  induction l with
  | nil => rfl
  | cons c t ih =>
    rw [stl_cons, past_cons]
    cases h : isd (c.toNat : Int)
    · cases hx : isx (c.toNat : Int)
      · simp [st, h, hx, a9, p3]
      · simp [st, h, hx, a6, p3]
    · simp [st, h, ih]
theorem a4 (l : List UInt8) : acc (stl 4 l) = (run l != 0 && p3 (past l)) := by
  cases l with
  | nil => rfl
  | cons c t =>
    rw [stl_cons, past_cons, run_cons]
    cases h : isd (c.toNat : Int)
    · simp [st, h, a9]
    · simp [st, h, a5]
theorem a3 (l : List UInt8) : acc (stl 3 l) = p2 (past l) := by
  induction l with
  | nil => rfl
  | cons c t ih =>
    rw [stl_cons, past_cons]
    cases h : isd (c.toNat : Int)
    · by_cases hd : (c.toNat : Int) = 46
      · rw [hd] at h; simp [st, h, hd, a4, p2]
      · cases hx : isx (c.toNat : Int)
        · simp [st, h, hd, hx, a9, p2, p3]
        · simp [st, h, hd, hx, a6, p2, p3]
    · simp [st, h, ih]
theorem a2 (l : List UInt8) : acc (stl 2 l) = p2 l := by
  cases l with
  | nil => rfl
  | cons c t =>
    rw [stl_cons]
    by_cases hd : (c.toNat : Int) = 46
    · simp [st, hd, a4, p2]
    · cases hx : isx (c.toNat : Int)
      · simp [st, hd, hx, a9, p2, p3]
      · simp [st, hd, hx, a6, p2, p3]
theorem a1 (l : List UInt8) : acc (stl 1 l) = p1 l := by
  cases l with
  | nil => rfl
  | cons c t =>
    rw [stl_cons, p1]
    by_cases hd : (c.toNat : Int) = 48
    · simp [st, hd, a2]
    · cases h : isd (c.toNat : Int)
      · simp [st, hd, h, a9, run_cons]
      · simp [st, hd, h, a3, run_cons, past_cons]
theorem a0 (l : List UInt8) : acc (stl 0 l) = p0 l := by
  cases l with
  | nil => rfl
  | cons c t =>
    rw [stl_cons, p0, p1]
    by_cases hm : (c.toNat : Int) = 45
    · simp [st, hm, a1]
    · by_cases hd : (c.toNat : Int) = 48
      · simp [st, hd, a2]
      · cases h : isd (c.toNat : Int)
        · simp [st, hm, hd, h, a9, run_cons]
        · simp [st, hm, hd, h, a3, run_cons, past_cons]
end Go.Proofs.Qxb6601359a.NumPlain
