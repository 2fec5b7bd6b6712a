import Derived.Test.Qxb6602115aModelB
import Derived.Test.Qxb6602115aStepC
namespace Go.Proofs.Qxb6602115a
open Go.RowKit
open Pl

theorem e_ied (z : Nat → Int) (k : Nat) : endsS z k ⟨#[105, 101, 100]⟩ = ends3 z k 105 101 100 := endsS3 z k 105 101 100
theorem e_eed (z : Nat → Int) (k : Nat) : endsS z k ⟨#[101, 101, 100]⟩ = ends3 z k 101 101 100 := endsS3 z k 101 101 100
theorem e_ing (z : Nat → Int) (k : Nat) : endsS z k ⟨#[105, 110, 103]⟩ = ends3 z k 105 110 103 := endsS3 z k 105 110 103
theorem e_ed (z : Nat → Int) (k : Nat) : endsS z k ⟨#[101, 100]⟩ = ends2 z k 101 100 := endsS2 z k 101 100
theorem e_at (z : Nat → Int) (k : Nat) : endsS z k ⟨#[97, 116]⟩ = ends2 z k 97 116 := endsS2 z k 97 116
theorem e_bl (z : Nat → Int) (k : Nat) : endsS z k ⟨#[98, 108]⟩ = ends2 z k 98 108 := endsS2 z k 98 108
theorem e_iz (z : Nat → Int) (k : Nat) : endsS z k ⟨#[105, 122]⟩ = ends2 z k 105 122 := endsS2 z k 105 122

/-- What the model hands back: the letters of a step that gives r, in new memory. -/
def Modeled (w : World) (z : Nat → Int) (r : Nat × Option Int) (e : Ending) (w' : World) : Prop := Fresh 5 r.1 (fun j => .int .u8 (laid z r j)) w e w'

theorem Modeled.of {w w1 w' : World} {z f : Nat → Int} {r : Nat × Option Int} {e : Ending} {k : Nat} (hq : ∃ m, w1 = w.drewN m) (hF : Fresh 5 k (fun j => .int .u8 (f j)) w1 e w') (R : Nat × Option Int) (hR : R = r) (hk : r.1 = k) (hf : ∀ j, j < k → f j = laid z r j) :
    Modeled w z R e w' := by
  subst hR hk
  obtain ⟨m, rfl⟩ := hq
  obtain ⟨a', g, he, ha, hg, hr, hb⟩ := hF
  exact ⟨a', g, he, ha, hg, fun h => (hr h).congr (fun j hj => by rw [hf j hj]), ⟨hb.os, hb.tape, hb.output, hb.size, hb.block⟩⟩



theorem fin_rest {z : Nat → Int} {q : Nat} (h1 : ends2 z q 97 116 = false) (h2 : ends2 z q 98 108 = false) (h3 : ends2 z q 105 122 = false) (hd : dbl z q = false) :
    (meas z q ≠ 1 → fin z q = (q, none)) ∧ (cvcB z q = false → fin z q = (q, none)) ∧ (meas z q = 1 → cvcB z q = true → fin z q = (q + 1, some 101)) := by
  have e : fin z q = if meas z q = 1 ∧ cvcB z q = true then (q + 1, some 101) else (q, none) := by
    unfold fin; rw [if_neg (by rw [h1, h2, h3]; simp), if_neg (by rw [hd]; simp)]
  rw [e]
  refine ⟨fun h => if_neg (fun k => h k.1), fun h => if_neg (fun k => by rw [h] at k; cases k.2), fun h k => if_pos ⟨h, k⟩⟩
theorem fin_dbl {z : Nat → Int} {q : Nat} (h1 : ends2 z q 97 116 = false) (h2 : ends2 z q 98 108 = false) (h3 : ends2 z q 105 122 = false) (hd : dbl z q = true) :
    fin z q = if z (q - 1) = 108 ∨ z (q - 1) = 115 ∨ z (q - 1) = 122 then (q, none) else (q - 1, none) := by
  unfold fin; rw [if_neg (by rw [h1, h2, h3]; simp), if_pos hd]
theorem fin_e {z : Nat → Int} {q : Nat} (h : ends2 z q 97 116 = true ∨ ends2 z q 98 108 = true ∨ ends2 z q 105 122 = true) : fin z q = (q + 1, some 101) := by
  unfold fin; rw [if_pos h]

set_option maxHeartbeats 1000000 in
theorem model_ied (g gc q : Nat) (z : Nat → Int) (w : World) (hn : q + 3 ≤ 1048576)
    (hc : ∀ k, k < q + 3 → w.cell? ⟨g, 0 + k, none⟩ = some (.int .u8 (z k))) (hgc : ∀ k, k < q + 3 → w.cell? ⟨gc, 0 + k, none⟩ = some (.bool (st z (k + 1))))
    (h1 : ends3 z (q + 3) 105 101 100 = true) :
    Calls Try.prog 12 #[.slice (some ⟨g, 0, none⟩) (q + 3) (q + 3), .slice (some ⟨gc, 0, none⟩) (q + 3) (q + 3)] w fun e w' => Modeled w z (stepB z (q + 3)) e w' := by
  have EZ : Hid (z q = 105) := by
    show z q = 105
    unfold ends3 at h1
    simp only [Bool.and_eq_true, beq_iff_eq] at h1
    exact h1.2.1
  have E0 : Hid (stepB z (q + 3) = if q + 3 = 4 then (3, none) else (q + 1, some 105)) := by
    show stepB z (q + 3) = _
    unfold stepB; rw [if_pos h1]; rfl
  by_cases h4 : q = 1
  · subst h4
    have E : Hid (stepB z 4 = (3, none)) := by have := E0.out; rw [if_pos rfl] at this; exact this
    clear E0
    have hq0 : ∃ m, w = w.drewN m := ⟨0, rfl⟩
    have hc0 := hc
    have hg0 := hgc
    go_enter Try.func12, Try.ntmps12
    go_wp2_with fail
    refine (zzEnds_any _ g 0 (4) (4) _ (4) (by first | rfl | omega | (rw [IntKind.wrap_i64]; omega)) _ z _ (by omega) (by omega) (fun _ => rfl) hc0).mono ?_
    rintro e w1 ⟨rfl, hq⟩
    rw [e_ied, show ends3 z 4 105 101 100 = true from h1]
    have hq1 := quiet_trans hq0 hq
    have hc1 := quiet_cells hq1 hc
    have hg1 := quiet_cells hq1 hgc
    clear hq hq0 hc0 hg0
    go_wp2_with fail
    refine (zzPrefix_word g 0 (4) (4) _ (3) (by first | rfl | omega | (rw [IntKind.wrap_i64]; omega)) z _ (by omega) (by omega) (Nat.le_refl _) (by exact hc1)).mono ?_
    rintro e w9 ⟨a9, g9, rfl, hF⟩
    have HF : Hid _ := hF
    clear hF
    go_wp2_with fail
    go_ret
    exact Modeled.of hq1 ⟨a9, g9, rfl, HF.out⟩ _ E.out rfl (fun _ _ => rfl)
  · have E : Hid (stepB z (q + 3) = (q + 1, some 105)) := by have := E0.out; rw [if_neg (by omega)] at this; exact this
    have n4 : ((q : Int) + 3 == 4) = false := by simp; omega
    clear E0
    have hq0 : ∃ m, w = w.drewN m := ⟨0, rfl⟩
    have hc0 := hc
    have hg0 := hgc
    go_enter Try.func12, Try.ntmps12
    go_wp2_with fail
    refine (zzEnds_any _ g 0 (q + 3) (q + 3) _ (q + 3) (by first | rfl | omega | (rw [IntKind.wrap_i64]; omega)) _ z _ (by omega) (by omega) (fun _ => rfl) hc0).mono ?_
    rintro e w1 ⟨rfl, hq⟩
    rw [e_ied, h1]
    have hq1 := quiet_trans hq0 hq
    have hc1 := quiet_cells hq1 hc
    have hg1 := quiet_cells hq1 hgc
    clear hq hq0 hc0 hg0
    go_wp2_with fail
    refine (zzPrefix_word g 0 (q + 3) (q + 3) _ (q + 1) (by first | rfl | omega | (rw [IntKind.wrap_i64]; omega)) z _ (by omega) (by omega) (Nat.le_refl _) (by exact hc1)).mono ?_
    rintro e w9 ⟨a9, g9, rfl, hF⟩
    have HF : Hid _ := hF
    clear hF
    go_wp2_with fail
    go_ret
    exact Modeled.of hq1 ⟨a9, g9, rfl, HF.out⟩ _ E.out rfl (fun j hj => by
      by_cases e : j = q
      · subst e; rw [laid_last]; exact EZ.out
      · rw [laid_before (by show j + 1 < q + 1; omega)])

set_option maxHeartbeats 1000000 in
theorem model_eed (g gc q : Nat) (z : Nat → Int) (w : World) (hn : q + 3 ≤ 1048576)
    (hc : ∀ k, k < q + 3 → w.cell? ⟨g, 0 + k, none⟩ = some (.int .u8 (z k))) (hgc : ∀ k, k < q + 3 → w.cell? ⟨gc, 0 + k, none⟩ = some (.bool (st z (k + 1))))
    (h1 : ends3 z (q + 3) 105 101 100 = false) (h2 : ends3 z (q + 3) 101 101 100 = true) :
    Calls Try.prog 12 #[.slice (some ⟨g, 0, none⟩) (q + 3) (q + 3), .slice (some ⟨gc, 0, none⟩) (q + 3) (q + 3)] w fun e w' => Modeled w z (stepB z (q + 3)) e w' := by
  have hml := meas_le z q
  have E0 : Hid (stepB z (q + 3) = if 0 < meas z q then (q + 2, none) else (q + 3, none)) := by
    show stepB z (q + 3) = _
    unfold stepB; rw [if_neg (by rw [h1]; simp), if_pos h2]; rfl
  have hq0 : ∃ m, w = w.drewN m := ⟨0, rfl⟩
  have hc0 := hc
  have hg0 := hgc
  go_enter Try.func12, Try.ntmps12
  go_wp2_with fail
  refine (zzEnds_any _ g 0 (q + 3) (q + 3) _ (q + 3) (by first | rfl | omega | (rw [IntKind.wrap_i64]; omega)) _ z _ (by omega) (by omega) (fun _ => rfl) hc0).mono ?_
  rintro e w1 ⟨rfl, hq⟩
  rw [e_ied, h1]
  have hq1 := quiet_trans hq0 hq
  have hc1 := quiet_cells hq1 hc
  have hg1 := quiet_cells hq1 hgc
  clear hq hq0 hc0 hg0
  go_wp2_with fail
  refine (zzEnds_any _ g 0 (q + 3) (q + 3) _ (q + 3) (by first | rfl | omega | (rw [IntKind.wrap_i64]; omega)) _ z _ (by omega) (by omega) (fun _ => rfl) hc1).mono ?_
  rintro e w2 ⟨rfl, hq⟩
  rw [e_eed, h2]
  have hq2 := quiet_trans hq1 hq
  have hc2 := quiet_cells hq2 hc
  have hg2 := quiet_cells hq2 hgc
  clear hq hq1 hc1 hg1
  go_wp2_with fail
  refine (zzMeasure_any _ gc 0 (q + 3) (q + 3) _ q (by first | rfl | omega | (rw [IntKind.wrap_i64]; omega)) z _ (by omega) (by omega) (fun _ => rfl) hg2).mono ?_
  rintro e w8 ⟨rfl, rfl⟩
  by_cases hp : 0 < meas z q
  · have E : Hid (stepB z (q + 3) = (q + 2, none)) := by have := E0.out; rw [if_pos hp] at this; exact this
    have hp2 : (0 : Int) < (meas z q : Int) := by omega
    clear E0
    go_wp2_with fail
    refine (zzPrefix_word g 0 (q + 3) (q + 3) _ (q + 2) (by first | rfl | omega | (rw [IntKind.wrap_i64]; omega)) z _ (by omega) (by omega) (Nat.le_refl _) (by exact hc2)).mono ?_
    rintro e w9 ⟨a9, g9, rfl, hF⟩
    have HF : Hid _ := hF
    clear hF
    go_wp2_with fail
    go_ret
    exact Modeled.of hq2 ⟨a9, g9, rfl, HF.out⟩ _ E.out rfl (fun _ _ => rfl)
  · have E : Hid (stepB z (q + 3) = (q + 3, none)) := by have := E0.out; rw [if_neg hp] at this; exact this
    have hp2 : ¬ (0 : Int) < (meas z q : Int) := by omega
    clear E0
    go_wp2_with fail
    refine (zzPrefix_word g 0 (q + 3) (q + 3) _ (q + 3) (by first | rfl | omega | (rw [IntKind.wrap_i64]; omega)) z _ (by omega) (by omega) (Nat.le_refl _) (by exact hc2)).mono ?_
    rintro e w9 ⟨a9, g9, rfl, hF⟩
    have HF : Hid _ := hF
    clear hF
    go_wp2_with fail
    go_ret
    exact Modeled.of hq2 ⟨a9, g9, rfl, HF.out⟩ _ E.out rfl (fun _ _ => rfl)

end Go.Proofs.Qxb6602115a
