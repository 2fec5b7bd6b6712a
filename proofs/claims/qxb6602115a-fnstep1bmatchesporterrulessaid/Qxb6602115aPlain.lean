/- THE PLAIN LAWS OF LETTER CLASSES: no Go in sight. -/
namespace Go.Proofs.Qxb6602115a.Pl

/-- Is the byte one of a, e, i, o, u? -/
def vow (c : Int) : Bool := c == 97 || c == 101 || c == 105 || c == 111 || c == 117

/-- 'consonant': what a letter is where it stands. -/
def consB (c : Int) (av : Bool) : Bool := if vow c = true then false else if c = 121 then av else true

/-- The class of the letter before place j (false at the word's head). -/
def st (z : Nat → Int) : Nat → Bool
  | 0 => false
  | j + 1 => consB (z j) (decide (j = 0) || !st z j)

theorem st_succ (z : Nat → Int) (j : Nat) : st z (j + 1) = consB (z j) (decide (j = 0) || !st z j) := rfl

theorem consB_not_y {c : Int} (h : c ≠ 121) (av : Bool) : consB c av = !vow c := by
  unfold consB
  rw [if_neg h]
  cases vow c <;> rfl

theorem consB_y (av : Bool) : consB 121 av = av := by simp [consB, vow]

/-- WHAT THE Y-RUN RULE KEEPS: p is the start of the run of y's that ends before j. -/
def Run (z : Nat → Int) (j p : Nat) : Prop :=
  p ≤ j ∧ (0 < j → z (j - 1) = 121 → p < j ∧ st z j = ((decide (p = 0) || vow (z (p - 1))) == decide ((j - 1 - p) % 2 = 0)))

theorem Run.zero (z : Nat → Int) : Run z 0 0 := ⟨Nat.le_refl _, fun h => absurd h (by omega)⟩

/-- A letter other than y. -/
theorem Run.other {z : Nat → Int} {j p : Nat} (h : Run z j p) (hj : z j ≠ 121) : Run z (j + 1) p ∧ st z (j + 1) = !vow (z j) := by
  refine ⟨⟨by have := h.1; omega, fun _ e => absurd (by simpa using e) hj⟩, ?_⟩
  rw [st_succ, consB_not_y hj]

/-- A y that opens a run. -/
theorem Run.opens {z : Nat → Int} {j : Nat} (hj : z j = 121) (hp : j = 0 ∨ z (j - 1) ≠ 121) :
    st z (j + 1) = (decide (j = 0) || vow (z (j - 1))) ∧ Run z (j + 1) j := by
  have e : st z (j + 1) = (decide (j = 0) || vow (z (j - 1))) := by
    rw [st_succ, hj, consB_y]
    rcases hp with rfl | hp
    · rfl
    · cases j with
      | zero => rfl
      | succ i =>
        have hi : z i ≠ 121 := by simpa using hp
        rw [st_succ, consB_not_y hi]
        simp
  refine ⟨e, by omega, fun _ _ => ⟨by omega, ?_⟩⟩
  rw [e]
  simp

/-- A y that goes on with one. -/
theorem Run.goes {z : Nat → Int} {j p : Nat} (h : Run z j p) (hj : z j = 121) (h0 : 0 < j) (hp : z (j - 1) = 121) :
    st z (j + 1) = ((decide (p = 0) || vow (z (p - 1))) == decide ((j - p) % 2 = 0)) ∧ Run z (j + 1) p ∧ p < j := by
  obtain ⟨hlt, e⟩ := h.2 h0 hp
  have e2 : st z (j + 1) = ((decide (p = 0) || vow (z (p - 1))) == decide ((j - p) % 2 = 0)) := by
    rw [st_succ, hj, consB_y, e]
    have hj0 : decide (j = 0) = false := decide_eq_false (by omega)
    rw [hj0, Bool.false_or]
    by_cases hq : (j - 1 - p) % 2 = 0
    · have h2 : ¬ (j - p) % 2 = 0 := by omega
      simp [hq, h2]
    · have h2 : (j - p) % 2 = 0 := by omega
      simp [hq, h2]
  refine ⟨e2, ⟨by omega, fun _ _ => ⟨by omega, ?_⟩⟩, hlt⟩
  rw [e2]
  rfl

/-- 'ends consonant, vowel, consonant' of the first n letters. -/
def cvcB (z : Nat → Int) (n : Nat) : Bool :=
  if n = 2 then !st z 1 && st z 2
  else if n < 3 then false
  else if z (n - 1) = 119 ∨ z (n - 1) = 120 ∨ z (n - 1) = 121 then false
  else st z (n - 2) && !st z (n - 1) && st z n

theorem cvcB_two (z : Nat → Int) : cvcB z 2 = (!st z 1 && st z 2) := by simp [cvcB]
theorem cvcB_small {z : Nat → Int} {n : Nat} (h : n < 2) : cvcB z n = false := by
  unfold cvcB; rw [if_neg (by omega), if_pos (by omega)]
theorem cvcB_wxy {z : Nat → Int} {n : Nat} (h : 3 ≤ n) (hz : z (n - 1) = 119 ∨ z (n - 1) = 120 ∨ z (n - 1) = 121) : cvcB z n = false := by
  unfold cvcB; rw [if_neg (by omega), if_neg (by omega), if_pos hz]
theorem cvcB_big {z : Nat → Int} {n : Nat} (h : 3 ≤ n) (h1 : z (n - 1) ≠ 119) (h2 : z (n - 1) ≠ 120) (h3 : z (n - 1) ≠ 121) : cvcB z n = (st z (n - 2) && !st z (n - 1) && st z n) := by
  unfold cvcB; rw [if_neg (by omega), if_neg (by omega), if_neg (by simp [h1, h2, h3])]

end Go.Proofs.Qxb6602115a.Pl
