import Derived.Test.Qxb6602115aModelD
import Derived.Test.Qxb6602115aModelE
namespace Go.Proofs.Qxb6602115a
open Go.RowKit
open Pl

theorem fresh_q {t : TypeId} {n : Nat} {f : Nat → Value} {w w1 w' : World} {e : Ending} (hq : ∃ m, w1 = w.drewN m) (hF : Fresh t n f w1 e w') : Fresh t n f w e w' := by
  obtain ⟨m, rfl⟩ := hq
  obtain ⟨a', g, he, ha, hg, hr, hb⟩ := hF
  exact ⟨a', g, he, ha, hg, hr, ⟨hb.os, hb.tape, hb.output, hb.size, hb.block⟩⟩

set_option maxHeartbeats 1000000 in
theorem model_keep (g gc n : Nat) (z : Nat → Int) (w : World) (h0 : 0 < n) (hn : n ≤ 1048576)
    (hc : ∀ k, k < n → w.cell? ⟨g, 0 + k, none⟩ = some (.int .u8 (z k))) (hgc : ∀ k, k < n → w.cell? ⟨gc, 0 + k, none⟩ = some (.bool (st z (k + 1))))
    (h1 : ends3 z n 105 101 100 = false) (h2 : ends3 z n 101 101 100 = false) (h3 : (ends2 z n 101 100 && hasV z (n - 2)) = false) (h4 : (ends3 z n 105 110 103 && hasV z (n - 3)) = false) :
    Calls Try.prog 12 #[.slice (some ⟨g, 0, none⟩) n n, .slice (some ⟨gc, 0, none⟩) n n] w fun e w' => Modeled w z (n, none) e w' := by
  have hq0 : ∃ m, w = w.drewN m := ⟨0, rfl⟩
  have hc0 := hc
  have hg0 := hgc
  go_enter Try.func12, Try.ntmps12
  go_wp2_with fail
  refine (zzEnds_any _ g 0 (n) (n) _ (n) (by first | rfl | omega | (rw [IntKind.wrap_i64]; omega)) _ z _ (by omega) (by omega) (fun _ => rfl) hc0).mono ?_
  rintro e w1 ⟨rfl, hq⟩
  rw [e_ied, h1]
  have hq1 := quiet_trans hq0 hq
  have hc1 := quiet_cells hq1 hc
  have hg1 := quiet_cells hq1 hgc
  clear hq hq0 hc0 hg0
  go_wp2_with fail
  refine (zzEnds_any _ g 0 (n) (n) _ (n) (by first | rfl | omega | (rw [IntKind.wrap_i64]; omega)) _ z _ (by omega) (by omega) (fun _ => rfl) hc1).mono ?_
  rintro e w2 ⟨rfl, hq⟩
  rw [e_eed, h2]
  have hq2 := quiet_trans hq1 hq
  have hc2 := quiet_cells hq2 hc
  have hg2 := quiet_cells hq2 hgc
  clear hq hq1 hc1 hg1
  go_wp2_with fail
  refine (zzEnds_any _ g 0 (n) (n) _ (n) (by first | rfl | omega | (rw [IntKind.wrap_i64]; omega)) _ z _ (by omega) (by omega) (fun _ => rfl) hc2).mono ?_
  rintro e w3 ⟨rfl, hq⟩
  rw [e_ed]
  have hq3 := quiet_trans hq2 hq
  have hc3 := quiet_cells hq3 hc
  have hg3 := quiet_cells hq3 hgc
  clear hq hq2 hc2 hg2
  clear h1 h2
  cases h5 : ends2 z n 101 100
  · go_wp2_with fail
    refine (zzEnds_any _ g 0 (n) (n) _ (n) (by first | rfl | omega | (rw [IntKind.wrap_i64]; omega)) _ z _ (by omega) (by omega) (fun _ => rfl) hc3).mono ?_
    rintro e w4 ⟨rfl, hq⟩
    rw [e_ing]
    have hq4 := quiet_trans hq3 hq
    have hc4 := quiet_cells hq4 hc
    have hg4 := quiet_cells hq4 hgc
    clear hq hq3 hc3 hg3
    cases h6 : ends3 z n 105 110 103
    · clear h3 h4 h5 h6
      go_wp2_with fail
      refine (zzPrefix_word g 0 (n) (n) _ (n) (by first | rfl | omega | (rw [IntKind.wrap_i64]; omega)) z _ (by omega) (by omega) (Nat.le_refl _) (by exact hc4)).mono ?_
      rintro e w9 ⟨a9, g9, rfl, hF⟩
      have HF : Hid _ := hF
      clear hF
      go_wp2_with fail
      go_ret
      exact Modeled.of hq4 ⟨a9, g9, rfl, HF.out⟩ _ rfl rfl (fun _ _ => rfl)
    · rw [h6, Bool.true_and] at h4
      have hle := ends3_le h6
      obtain ⟨q, rfl⟩ : ∃ q, n = q + 3 := ⟨n - 3, by omega⟩
      have h4' : hasV z q = false := h4
      clear h3 h4 h5 h6
      go_wp2_with fail
      refine (zzHasVowel_any _ gc 0 (q + 3) (q + 3) _ q (by first | rfl | omega | (rw [IntKind.wrap_i64]; omega)) z _ (by omega) (by omega) (fun _ => rfl) hg4).mono ?_
      rintro e w8 ⟨rfl, rfl⟩
      rw [h4']
      go_wp2_with fail
      refine (zzPrefix_word g 0 (q + 3) (q + 3) _ (q + 3) (by first | rfl | omega | (rw [IntKind.wrap_i64]; omega)) z _ (by omega) (by omega) (Nat.le_refl _) (by exact hc4)).mono ?_
      rintro e w9 ⟨a9, g9, rfl, hF⟩
      have HF : Hid _ := hF
      clear hF
      go_wp2_with fail
      go_ret
      exact Modeled.of hq4 ⟨a9, g9, rfl, HF.out⟩ _ rfl rfl (fun _ _ => rfl)
  · rw [h5, Bool.true_and] at h3
    have hle := ends2_le h5
    have h6 : ends3 z n 105 110 103 = false := by
      unfold ends2 at h5
      simp only [Bool.and_eq_true, beq_iff_eq] at h5
      unfold ends3
      rw [h5.1.2]
      simp
    obtain ⟨q, rfl⟩ : ∃ q, n = q + 2 := ⟨n - 2, by omega⟩
    have h3' : hasV z q = false := h3
    clear h3 h4 h5
    go_wp2_with fail
    refine (zzHasVowel_any _ gc 0 (q + 2) (q + 2) _ q (by first | rfl | omega | (rw [IntKind.wrap_i64]; omega)) z _ (by omega) (by omega) (fun _ => rfl) hg3).mono ?_
    rintro e w8 ⟨rfl, rfl⟩
    rw [h3']
    go_wp2_with fail
    refine (zzEnds_any _ g 0 (q + 2) (q + 2) _ (q + 2) (by first | rfl | omega | (rw [IntKind.wrap_i64]; omega)) _ z _ (by omega) (by omega) (fun _ => rfl) hc3).mono ?_
    rintro e w4 ⟨rfl, hq⟩
    rw [e_ing, h6]
    have hq4 := quiet_trans hq3 hq
    have hc4 := quiet_cells hq4 hc
    have hg4 := quiet_cells hq4 hgc
    clear hq hq3 hc3 hg3
    go_wp2_with fail
    refine (zzPrefix_word g 0 (q + 2) (q + 2) _ (q + 2) (by first | rfl | omega | (rw [IntKind.wrap_i64]; omega)) z _ (by omega) (by omega) (Nat.le_refl _) (by exact hc4)).mono ?_
    rintro e w9 ⟨a9, g9, rfl, hF⟩
    have HF : Hid _ := hF
    clear hF
    go_wp2_with fail
    go_ret
    exact Modeled.of hq4 ⟨a9, g9, rfl, HF.out⟩ _ rfl rfl (fun _ _ => rfl)

/-- THE MODEL of a word of at least one letter. -/
theorem model_word (g gc n : Nat) (z : Nat → Int) (w : World) (h0 : 0 < n) (hn : n ≤ 1048576)
    (hc : ∀ k, k < n → w.cell? ⟨g, 0 + k, none⟩ = some (.int .u8 (z k))) (hgc : ∀ k, k < n → w.cell? ⟨gc, 0 + k, none⟩ = some (.bool (st z (k + 1)))) :
    Calls Try.prog 12 #[.slice (some ⟨g, 0, none⟩) n n, .slice (some ⟨gc, 0, none⟩) n n] w fun e w' => Modeled w z (stepB z n) e w' := by
  cases h1 : ends3 z n 105 101 100
  case true =>
    have hle := ends3_le h1
    obtain ⟨q, rfl⟩ : ∃ q, n = q + 3 := ⟨n - 3, by omega⟩
    exact model_ied g gc q z w hn hc hgc h1
  cases h2 : ends3 z n 101 101 100
  case true =>
    have hle := ends3_le h2
    obtain ⟨q, rfl⟩ : ∃ q, n = q + 3 := ⟨n - 3, by omega⟩
    exact model_eed g gc q z w hn hc hgc h1 h2
  cases h3 : (ends2 z n 101 100 && hasV z (n - 2))
  case true =>
    rw [Bool.and_eq_true] at h3
    have e : stepB z n = fin z (n - 2) := by unfold stepB; rw [if_neg (by rw [h1]; simp), if_neg (by rw [h2]; simp), if_pos h3]
    rw [e]
    have hle := ends2_le h3.1
    obtain ⟨q, rfl⟩ : ∃ q, n = q + 2 := ⟨n - 2, by omega⟩
    exact model_ed g gc q z w hn hc hgc h1 h2 h3.1 h3.2
  have h3n : ¬ (ends2 z n 101 100 = true ∧ hasV z (n - 2) = true) := by rw [← Bool.and_eq_true, h3]; simp
  cases h4 : (ends3 z n 105 110 103 && hasV z (n - 3))
  case true =>
    rw [Bool.and_eq_true] at h4
    have e : stepB z n = fin z (n - 3) := by unfold stepB; rw [if_neg (by rw [h1]; simp), if_neg (by rw [h2]; simp), if_neg h3n, if_pos h4]
    rw [e]
    have hle := ends3_le h4.1
    have h5 : ends2 z n 101 100 = false := by
      have h6 := h4.1
      unfold ends3 at h6
      simp only [Bool.and_eq_true, beq_iff_eq] at h6
      unfold ends2
      rw [h6.1.2]
      simp
    obtain ⟨q, rfl⟩ : ∃ q, n = q + 3 := ⟨n - 3, by omega⟩
    exact model_ing g gc q z w hn hc hgc h1 h2 h5 h4.1 h4.2
  have h4n : ¬ (ends3 z n 105 110 103 = true ∧ hasV z (n - 3) = true) := by rw [← Bool.and_eq_true, h4]; simp
  have e : stepB z n = (n, none) := by unfold stepB; rw [if_neg (by rw [h1]; simp), if_neg (by rw [h2]; simp), if_neg h3n, if_neg h4n]
  rw [e]
  exact model_keep g gc n z w h0 hn hc hgc h1 h2 h3 h4

set_option maxHeartbeats 1000000 in
/-- .. of a slice without an element. -/
theorem model_empty (a a2 : Option Addr) (z : Nat → Int) (w : World) :
    Calls Try.prog 12 #[.slice a 0 0, .slice a2 0 0] w fun e w' => Fresh 5 0 (fun k => .int .u8 (z k)) w e w' := by
  have hno : ∀ k, k < 0 → w.cell? ⟨0, 0 + k, none⟩ = some (.int .u8 (z k)) := fun k h => absurd h (by omega)
  have hq0 : ∃ m, w = w.drewN m := ⟨0, rfl⟩
  go_enter Try.func12, Try.ntmps12
  go_wp2_with fail
  refine (zzEnds_any a 0 0 0 0 _ 0 (by first | rfl | omega | (rw [IntKind.wrap_i64]; omega)) _ z _ (by omega) (by omega) (fun h => absurd h (by omega)) (fun k h => absurd h (by omega))).mono ?_
  rintro e w1 ⟨rfl, hq⟩
  rw [e_ied, show ends3 z 0 105 101 100 = false from rfl]
  have hq1 := quiet_trans hq0 hq
  clear hq hq0
  go_wp2_with fail
  refine (zzEnds_any a 0 0 0 0 _ 0 (by first | rfl | omega | (rw [IntKind.wrap_i64]; omega)) _ z _ (by omega) (by omega) (fun h => absurd h (by omega)) (fun k h => absurd h (by omega))).mono ?_
  rintro e w2 ⟨rfl, hq⟩
  rw [e_eed, show ends3 z 0 101 101 100 = false from rfl]
  have hq2 := quiet_trans hq1 hq
  clear hq hq1
  go_wp2_with fail
  refine (zzEnds_any a 0 0 0 0 _ 0 (by first | rfl | omega | (rw [IntKind.wrap_i64]; omega)) _ z _ (by omega) (by omega) (fun h => absurd h (by omega)) (fun k h => absurd h (by omega))).mono ?_
  rintro e w3 ⟨rfl, hq⟩
  rw [e_ed, show ends2 z 0 101 100 = false from rfl]
  have hq3 := quiet_trans hq2 hq
  clear hq hq2
  go_wp2_with fail
  refine (zzEnds_any a 0 0 0 0 _ 0 (by first | rfl | omega | (rw [IntKind.wrap_i64]; omega)) _ z _ (by omega) (by omega) (fun h => absurd h (by omega)) (fun k h => absurd h (by omega))).mono ?_
  rintro e w4 ⟨rfl, hq⟩
  rw [e_ing, show ends3 z 0 105 110 103 = false from rfl]
  have hq4 := quiet_trans hq3 hq
  clear hq hq3
  go_wp2_with fail
  refine (zzPrefix_none a z _).mono ?_
  rintro e w9 ⟨a9, g9, rfl, hF⟩
  have HF : Hid _ := hF
  clear hF
  go_wp2_with fail
  go_ret
  exact fresh_q hq4 ⟨a9, g9, rfl, HF.out⟩

end Go.Proofs.Qxb6602115a
