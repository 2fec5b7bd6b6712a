/- THE PLAIN FUNCTIONS OF STEP 1b: no Go in sight. -/
import Derived.Test.Qxb6602115aPlain
namespace Go.Proofs.Qxb6602115a.Pl

/-- m of the first n letters: how often a vowel is followed by a consonant. -/
def meas (z : Nat → Int) : Nat → Nat
  | 0 => 0
  | j + 1 => meas z j + (if (st z (j + 1) && (decide (0 < j) && !st z j)) = true then 1 else 0)

theorem meas_succ (z : Nat → Int) (j : Nat) : meas z (j + 1) = meas z j + (if (st z (j + 1) && (decide (0 < j) && !st z j)) = true then 1 else 0) := rfl
theorem meas_le (z : Nat → Int) : ∀ n, meas z n ≤ n
  | 0 => Nat.le_refl _
  | j + 1 => by rw [meas_succ]; have := meas_le z j; split <;> omega

theorem meas_hit {z : Nat → Int} {k : Nat} (h : st z (k + 1) = true) (h0 : 0 < k) (hp : st z k = false) : meas z (k + 1) = meas z k + 1 := by
  rw [meas_succ, h, hp]; simp [h0]
theorem meas_miss {z : Nat → Int} {k : Nat} (h : st z (k + 1) = false) : meas z (k + 1) = meas z k := by
  rw [meas_succ, h]; simp

/-- Is there a vowel among the first n letters? -/
def hasV (z : Nat → Int) : Nat → Bool
  | 0 => false
  | j + 1 => hasV z j || !st z (j + 1)

theorem hasV_succ (z : Nat → Int) (j : Nat) : hasV z (j + 1) = (hasV z j || !st z (j + 1)) := rfl
theorem hasV_of {z : Nat → Int} {j n : Nat} (h : j < n) (hv : st z (j + 1) = false) : hasV z n = true := by
  induction n with
  | zero => omega
  | succ m ih =>
    rw [hasV_succ]
    by_cases e : j = m
    · subst e; simp [hv]
    · simp [ih (by omega)]
theorem hasV_pos {z : Nat → Int} {n : Nat} (h : hasV z n = true) : 0 < n := by
  cases n with
  | zero => cases h
  | succ m => omega

/-- Two equal consonants at the end of the first n letters. -/
def dbl (z : Nat → Int) (n : Nat) : Bool := decide (2 ≤ n) && (z (n - 1) == z (n - 2)) && st z n

/-- Do the first n letters end in x, y, v? In y, v? -/
def ends3 (z : Nat → Int) (n : Nat) (x y v : Int) : Bool := decide (3 ≤ n) && (z (n - 1) == v) && ((z (n - 3) == x) && (z (n - 2) == y))
def ends2 (z : Nat → Int) (n : Nat) (y v : Int) : Bool := decide (2 ≤ n) && (z (n - 1) == v) && (z (n - 2) == y)

theorem ends3_le {z : Nat → Int} {n : Nat} {x y v : Int} (h : ends3 z n x y v = true) : 3 ≤ n := by
  unfold ends3 at h
  simp only [Bool.and_eq_true, decide_eq_true_eq] at h
  exact h.1.1
theorem ends2_le {z : Nat → Int} {n : Nat} {y v : Int} (h : ends2 z n y v = true) : 2 ≤ n := by
  unfold ends2 at h
  simp only [Bool.and_eq_true, decide_eq_true_eq] at h
  exact h.1.1
theorem dbl_le {z : Nat → Int} {n : Nat} (h : dbl z n = true) : 2 ≤ n := by
  unfold dbl at h
  simp only [Bool.and_eq_true, decide_eq_true_eq] at h
  exact h.1.1

/-- THE TIDYING of a stem of k letters: its new length; the letter that is laid at its end, where one is. -/
def fin (z : Nat → Int) (k : Nat) : Nat × Option Int :=
  if ends2 z k 97 116 = true ∨ ends2 z k 98 108 = true ∨ ends2 z k 105 122 = true then (k + 1, some 101)
  else if dbl z k = true then (if z (k - 1) = 108 ∨ z (k - 1) = 115 ∨ z (k - 1) = 122 then (k, none) else (k - 1, none))
  else if meas z k = 1 ∧ cvcB z k = true then (k + 1, some 101)
  else (k, none)

/-- STEP 1b of n letters. -/
def stepB (z : Nat → Int) (n : Nat) : Nat × Option Int :=
  if ends3 z n 105 101 100 = true then (if n = 4 then (3, none) else (n - 2, some 105))
  else if ends3 z n 101 101 100 = true then (if 0 < meas z (n - 3) then (n - 1, none) else (n, none))
  else if ends2 z n 101 100 = true ∧ hasV z (n - 2) = true then fin z (n - 2)
  else if ends3 z n 105 110 103 = true ∧ hasV z (n - 3) = true then fin z (n - 3)
  else (n, none)

/-- The letters behind a step that gives r. -/
def laid (z : Nat → Int) (r : Nat × Option Int) (j : Nat) : Int :=
  match r.2 with
  | some v => if j + 1 = r.1 then v else z j
  | none => z j

end Go.Proofs.Qxb6602115a.Pl
