import Derived.Test.Qxb6602115aFinA
import Derived.Test.Qxb6602115aFinB
namespace Go.Proofs.Qxb6602115a
open Go.RowKit
open Pl

/-- STEP 1b of a word of at least one letter that lies at the head of a block of its own. -/
theorem step1b_word (g n : Nat) (z : Nat → Int) (w : World) (hn : n ≤ 1048576) (hz : ∀ k, k < n → 0 ≤ z k ∧ z k ≤ 255) (hrow : w.rowIs g 5 n (fun k => .int .u8 (z k))) :
    Calls Try.prog 39 #[.slice (some ⟨g, 0, none⟩) n n] w fun e w' => Stepped w g n z (stepB z n) e w' := by
  cases h1 : ends3 z n 105 101 100
  case true => exact step_ied g n z w hn hz hrow h1
  cases h2 : ends3 z n 101 101 100
  case true => exact step_eed g n z w hn hz hrow h1 h2
  cases h3 : (ends2 z n 101 100 && hasV z (n - 2))
  case true =>
    rw [Bool.and_eq_true] at h3
    have e : stepB z n = fin z (n - 2) := by unfold stepB; rw [if_neg (by rw [h1]; simp), if_neg (by rw [h2]; simp), if_pos h3]
    rw [e]
    have hle := ends2_le h3.1
    obtain ⟨q, rfl⟩ : ∃ q, n = q + 2 := ⟨n - 2, by omega⟩
    exact step_ed g q z w hn hz hrow h1 h2 h3.1 h3.2
  have h3n : ¬ (ends2 z n 101 100 = true ∧ hasV z (n - 2) = true) := by rw [← Bool.and_eq_true, h3]; simp
  cases h4 : (ends3 z n 105 110 103 && hasV z (n - 3))
  case true =>
    rw [Bool.and_eq_true] at h4
    have e : stepB z n = fin z (n - 3) := by unfold stepB; rw [if_neg (by rw [h1]; simp), if_neg (by rw [h2]; simp), if_neg h3n, if_pos h4]
    rw [e]
    have hle := ends3_le h4.1
    have h5 : ends2 z n 101 100 = false := by
      have h6 := h4.1
      unfold ends3 at h6
      simp only [Bool.and_eq_true, beq_iff_eq] at h6
      unfold ends2
      rw [h6.1.2]
      simp
    obtain ⟨q, rfl⟩ : ∃ q, n = q + 3 := ⟨n - 3, by omega⟩
    exact step_ing g q z w hn hz hrow h1 h2 h5 h4.1 h4.2
  have h4n : ¬ (ends3 z n 105 110 103 = true ∧ hasV z (n - 3) = true) := by rw [← Bool.and_eq_true, h4]; simp
  have e : stepB z n = (n, none) := by unfold stepB; rw [if_neg (by rw [h1]; simp), if_neg (by rw [h2]; simp), if_neg h3n, if_neg h4n]
  rw [e]
  refine (step_keep (some ⟨g, 0, none⟩) g 0 n n z w (Nat.le_refl _) hn (fun _ => rfl) hz ((Word.refl hrow).cells (Nat.le_refl _)) h1 h2 h3 h4).mono ?_
  rintro e w' ⟨rfl, hq⟩
  exact ⟨rfl, ((Word.refl hrow).quiet hq).none _⟩

/-- .. of a slice without an element. -/
theorem step1b_empty (a : Option Addr) (c : Nat) (w : World) : Calls Try.prog 39 #[.slice a 0 c] w fun e w' => Kept a 0 c w e w' :=
  step_keep a 0 0 0 c (fun _ => 0) w (Nat.zero_le _) (by omega) (fun h => absurd h (by omega)) (fun k h => absurd h (by omega)) (fun k h => absurd h (by omega)) rfl rfl rfl rfl

set_option maxHeartbeats 400000 in
theorem zzStep1b_word (g n : Nat) (z : Nat → Int) (w : World) (hn : n ≤ 1048576) (hz : ∀ k, k < n → 0 ≤ z k ∧ z k ≤ 255) (hrow : w.rowIs g 5 n (fun k => .int .u8 (z k))) :
    Calls Try.prog 14 #[.slice (some ⟨g, 0, none⟩) n n] w fun e w' => Stepped w g n z (stepB z n) e w' := by
  go_enter Try.func14, Try.ntmps14
  go_wp2_with fail
  refine (step1b_word g n z _ hn hz hrow).mono ?_
  rintro e w' ⟨rfl, hW⟩
  go_wp2_with fail
  go_ret
  exact ⟨rfl, hW⟩

set_option maxHeartbeats 400000 in
theorem zzStep1b_empty (a : Option Addr) (c : Nat) (w : World) : Calls Try.prog 14 #[.slice a 0 c] w fun e w' => Kept a 0 c w e w' := by
  go_enter Try.func14, Try.ntmps14
  go_wp2_with fail
  refine (step1b_empty a c _).mono ?_
  rintro e w' ⟨rfl, hq⟩
  go_wp2_with fail
  go_ret
  exact ⟨rfl, hq⟩

end Go.Proofs.Qxb6602115a
