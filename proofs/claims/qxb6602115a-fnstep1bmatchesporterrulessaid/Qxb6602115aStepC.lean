import Derived.Test.Qxb6602115aStep
namespace Go.Proofs.Qxb6602115a
open Go.RowKit
open Pl

set_option maxHeartbeats 1000000 in
theorem step_eed (g n : Nat) (z : Nat → Int) (w : World) (hn : n ≤ 1048576) (hz : ∀ k, k < n → 0 ≤ z k ∧ z k ≤ 255) (hrow : w.rowIs g 5 n (fun k => .int .u8 (z k)))
    (h1 : ends3 z n 105 101 100 = false) (h2 : ends3 z n 101 101 100 = true) :
    Calls Try.prog 39 #[.slice (some ⟨g, 0, none⟩) n n] w fun e w' => Stepped w g n z (stepB z n) e w' := by
  have hle := ends3_le h2
  have hW := Word.refl hrow
  have e : stepB z n = if 0 < meas z (n - 3) then (n - 1, none) else (n, none) := by unfold stepB; rw [if_neg (by rw [h1]; simp), if_pos h2]
  rw [e]
  obtain ⟨q, rfl⟩ : ∃ q, n = q + 3 := ⟨n - 3, by omega⟩
  have hm := meas_le z q
  by_cases hp : 0 < meas z q
  · rw [if_pos (show 0 < meas z (q + 3 - 3) from hp)]
    go_enter Try.func39, Try.ntmps39
    go_wp2_with fail
    refine (suf_ied _ g 0 (q + 3) (q + 3) z _ (by omega) (by omega) (fun _ => rfl) hz (hW.cells (Nat.le_refl _))).mono ?_
    rintro e w1 ⟨rfl, hq⟩
    rw [h1]
    have hW1 := hW.quiet hq
    clear hW hq hrow
    go_wp2_with fail
    refine (suf_eed _ g 0 (q + 3) (q + 3) z _ (by omega) (by omega) (fun _ => rfl) hz (hW1.cells (Nat.le_refl _))).mono ?_
    rintro e w2 ⟨rfl, hq⟩
    rw [h2]
    have hW2 := hW1.quiet hq
    clear hW1 hq
    go_wp2_with fail
    refine (measure_any _ g 0 q (q + 3) z _ (by omega) (fun _ => rfl) (hW2.cells (by omega))).mono ?_
    rintro e w3 ⟨rfl, rfl⟩
    go_wp2_with fail
    go_ret
    exact ⟨rfl, hW2.none _⟩
  · rw [if_neg (show ¬ 0 < meas z (q + 3 - 3) from hp)]
    go_enter Try.func39, Try.ntmps39
    go_wp2_with fail
    refine (suf_ied _ g 0 (q + 3) (q + 3) z _ (by omega) (by omega) (fun _ => rfl) hz (hW.cells (Nat.le_refl _))).mono ?_
    rintro e w1 ⟨rfl, hq⟩
    rw [h1]
    have hW1 := hW.quiet hq
    clear hW hq hrow
    go_wp2_with fail
    refine (suf_eed _ g 0 (q + 3) (q + 3) z _ (by omega) (by omega) (fun _ => rfl) hz (hW1.cells (Nat.le_refl _))).mono ?_
    rintro e w2 ⟨rfl, hq⟩
    rw [h2]
    have hW2 := hW1.quiet hq
    clear hW1 hq
    go_wp2_with fail
    refine (measure_any _ g 0 q (q + 3) z _ (by omega) (fun _ => rfl) (hW2.cells (by omega))).mono ?_
    rintro e w3 ⟨rfl, rfl⟩
    go_wp2_with fail
    go_ret
    exact ⟨rfl, hW2.none _⟩

/-- Nothing to cut: any slice, the empty and the nil one too. -/
def Kept (a : Option Addr) (n c : Nat) (w : World) (e : Ending) (w' : World) : Prop := e = .returned (.slice a n c) ∧ ∃ m, w' = w.drewN m

theorem quiet_trans {w w1 w2 : World} (h : ∃ m, w1 = w.drewN m) (k : ∃ m, w2 = w1.drewN m) : ∃ m, w2 = w.drewN m := by
  obtain ⟨m, rfl⟩ := h
  obtain ⟨m', rfl⟩ := k
  exact ⟨m + m', by rw [World.drewN_drewN]⟩
theorem quiet_cells {w w1 : World} (h : ∃ m, w1 = w.drewN m) {P : Nat → Prop} {b off : Nat} {f : Nat → Value} (hc : ∀ k, P k → w.cell? ⟨b, off + k, none⟩ = some (f k)) : ∀ k, P k → w1.cell? ⟨b, off + k, none⟩ = some (f k) := by
  obtain ⟨m, rfl⟩ := h
  exact hc

set_option maxHeartbeats 1000000 in
theorem step_keep (a : Option Addr) (b off n c : Nat) (z : Nat → Int) (w : World) (hnc : n ≤ c) (hn : n ≤ 1048576) (ha : 0 < n → a = some ⟨b, off, none⟩) (hz : ∀ k, k < n → 0 ≤ z k ∧ z k ≤ 255)
    (hc : ∀ k, k < n → w.cell? ⟨b, off + k, none⟩ = some (.int .u8 (z k)))
    (h1 : ends3 z n 105 101 100 = false) (h2 : ends3 z n 101 101 100 = false) (h3 : (ends2 z n 101 100 && hasV z (n - 2)) = false) (h4 : (ends3 z n 105 110 103 && hasV z (n - 3)) = false) :
    Calls Try.prog 39 #[.slice a n c] w fun e w' => Kept a n c w e w' := by
  have hn' : n ≤ 9223372036854775807 := by omega
  go_enter Try.func39, Try.ntmps39
  go_wp2_with fail
  refine (suf_ied a b off n c z _ hnc hn' ha hz hc).mono ?_
  rintro e w1 ⟨rfl, hq1⟩
  rw [h1]
  have hc1 := quiet_cells hq1 hc
  go_wp2_with fail
  refine (suf_eed a b off n c z _ hnc hn' ha hz hc1).mono ?_
  rintro e w2 ⟨rfl, hq⟩
  rw [h2]
  have hq2 := quiet_trans hq1 hq
  have hc2 := quiet_cells hq2 hc
  clear hq1 hq hc1
  go_wp2_with fail
  refine (suf_ed a b off n c z _ hnc hn' ha hz hc2).mono ?_
  rintro e w3 ⟨rfl, hq⟩
  have hq3 := quiet_trans hq2 hq
  have hc3 := quiet_cells hq3 hc
  clear hq2 hq hc2
  cases h5 : ends2 z n 101 100
  · go_wp2_with fail
    refine (suf_ing a b off n c z _ hnc hn' ha hz hc3).mono ?_
    rintro e w4 ⟨rfl, hq⟩
    have hq4 := quiet_trans hq3 hq
    have hc4 := quiet_cells hq4 hc
    clear hq3 hq hc3
    cases h6 : ends3 z n 105 110 103
    · go_wp2_with fail
      go_ret
      exact ⟨rfl, hq4⟩
    · rw [h6, Bool.true_and] at h4
      have hle := ends3_le h6
      obtain rfl := ha (by omega)
      obtain ⟨q, rfl⟩ : ∃ q, n = q + 3 := ⟨n - 3, by omega⟩
      have h4' : hasV z q = false := h4
      clear h4 h3
      go_wp2_with fail
      refine (hasVowel_any _ b off q c z _ (by omega) (fun _ => rfl) (fun k hk => hc4 k (by omega))).mono ?_
      rintro e w5 ⟨rfl, rfl⟩
      rw [h4']
      go_wp2_with fail
      go_ret
      exact ⟨rfl, hq4⟩
  · rw [h5, Bool.true_and] at h3
    have hle := ends2_le h5
    obtain rfl := ha (by omega)
    have h6 : ends3 z n 105 110 103 = false := by
      unfold ends2 at h5
      simp only [Bool.and_eq_true, beq_iff_eq] at h5
      unfold ends3
      rw [h5.1.2]
      simp
    obtain ⟨q, rfl⟩ : ∃ q, n = q + 2 := ⟨n - 2, by omega⟩
    have h3' : hasV z q = false := h3
    clear h3 h4
    go_wp2_with fail
    refine (hasVowel_any _ b off q c z _ (by omega) (fun _ => rfl) (fun k hk => hc3 k (by omega))).mono ?_
    rintro e w4 ⟨rfl, rfl⟩
    rw [h3']
    go_wp2_with fail
    refine (suf_ing _ b off (q + 2) c z _ hnc hn' (fun _ => rfl) hz hc3).mono ?_
    rintro e w5 ⟨rfl, hq⟩
    have hq5 := quiet_trans hq3 hq
    rw [h6]
    go_wp2_with fail
    go_ret
    exact ⟨rfl, hq5⟩

end Go.Proofs.Qxb6602115a
