/- WHAT STEP 1b CUTS AND ADDS: no Go in sight. -/
import Derived.Test.Qxb6602115aPlainB
namespace Go.Proofs.Qxb6602115a.Pl

/-- A step that cuts at most four letters of n, leaves one at least, and turns none but the last, which is the old one or an e. -/
structure Cuts (z : Nat → Int) (n : Nat) (r : Nat × Option Int) : Prop where
  pos : 0 < r.1
  le : r.1 ≤ n
  four : n ≤ r.1 + 4
  last : laid z r (r.1 - 1) = z (r.1 - 1) ∨ laid z r (r.1 - 1) = 101

theorem laid_before {z : Nat → Int} {r : Nat × Option Int} {j : Nat} (h : j + 1 < r.1) : laid z r j = z j := by
  unfold laid
  split
  · rw [if_neg (by omega)]
  · rfl
theorem laid_last {z : Nat → Int} {k : Nat} {v : Int} : laid z (k + 1, some v) k = v := by simp [laid]
theorem laid_beyond {z : Nat → Int} {r : Nat × Option Int} {j : Nat} (h : r.1 ≤ j) : laid z r j = z j := by
  unfold laid
  split
  · rw [if_neg (by omega)]
  · rfl

theorem Cuts.plain {z : Nat → Int} {n k : Nat} (h0 : 0 < k) (h1 : k ≤ n) (h2 : n ≤ k + 4) : Cuts z n (k, none) := ⟨h0, h1, h2, .inl rfl⟩
theorem Cuts.e {z : Nat → Int} {n k : Nat} (h1 : k + 1 ≤ n) (h2 : n ≤ k + 5) : Cuts z n (k + 1, some 101) := ⟨by simp, h1, by simpa using h2, .inr laid_last⟩

theorem fin_cuts {z : Nat → Int} {n k : Nat} (h0 : 0 < k) (h1 : k + 1 ≤ n) (h2 : n ≤ k + 3) : Cuts z n (fin z k) := by
  unfold fin
  split
  · exact Cuts.e h1 (by omega)
  split
  · rename_i hd
    have := dbl_le hd
    split
    · exact Cuts.plain h0 (by omega) (by omega)
    · exact Cuts.plain (by omega) (by omega) (by omega)
  split
  · exact Cuts.e h1 (by omega)
  · exact Cuts.plain h0 (by omega) (by omega)

theorem step_cuts {z : Nat → Int} {n : Nat} (h0 : 0 < n) : Cuts z n (stepB z n) := by
  unfold stepB
  split
  · rename_i h1
    have hle := ends3_le h1
    split
    · rename_i h4; subst h4; exact Cuts.plain (by omega) (by omega) (by omega)
    · obtain ⟨q, rfl⟩ : ∃ q, n = q + 3 := ⟨n - 3, by omega⟩
      refine ⟨by simp, by show q + 1 ≤ _; omega, by show _ ≤ q + 1 + 4; omega, .inl ?_⟩
      show laid z (q + 1, some 105) q = z q
      rw [laid_last]
      unfold ends3 at h1
      simp only [Bool.and_eq_true, beq_iff_eq] at h1
      exact h1.2.1.symm
  split
  · rename_i h2
    have hle := ends3_le h2
    split
    · exact Cuts.plain (by omega) (by omega) (by omega)
    · exact Cuts.plain h0 (by omega) (by omega)
  split
  · rename_i h3
    have hle := ends2_le h3.1
    have := hasV_pos h3.2
    exact fin_cuts this (by omega) (by omega)
  split
  · rename_i h4
    have hle := ends3_le h4.1
    have := hasV_pos h4.2
    exact fin_cuts this (by omega) (by omega)
  · exact Cuts.plain h0 (by omega) (by omega)

end Go.Proofs.Qxb6602115a.Pl
