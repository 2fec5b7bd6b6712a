import Derived.Test.Qxb6602115aModelC
namespace Go.Proofs.Qxb6602115a
open Go.RowKit
open Pl

set_option maxHeartbeats 4000000 in
theorem model_ing (g gc q : Nat) (z : Nat → Int) (w : World) (hn : q + 3 ≤ 1048576)
    (hc : ∀ k, k < q + 3 → w.cell? ⟨g, 0 + k, none⟩ = some (.int .u8 (z k))) (hgc : ∀ k, k < q + 3 → w.cell? ⟨gc, 0 + k, none⟩ = some (.bool (st z (k + 1))))
    (h1 : ends3 z (q + 3) 105 101 100 = false) (h2 : ends3 z (q + 3) 101 101 100 = false) (h3 : ends2 z (q + 3) 101 100 = false) (h4 : ends3 z (q + 3) 105 110 103 = true) (hv : hasV z q = true) :
    Calls Try.prog 12 #[.slice (some ⟨g, 0, none⟩) (q + 3) (q + 3), .slice (some ⟨gc, 0, none⟩) (q + 3) (q + 3)] w fun e w' => Modeled w z (fin z q) e w' := by
  have hq0 : ∃ m, w = w.drewN m := ⟨0, rfl⟩
  have hc0 := hc
  have hg0 := hgc
  go_enter Try.func12, Try.ntmps12
  go_wp2_with fail
  refine (zzEnds_any _ g 0 (q + 3) (q + 3) _ (q + 3) (by first | rfl | omega | (rw [IntKind.wrap_i64]; omega)) _ z _ (by omega) (by omega) (fun _ => rfl) hc0).mono ?_
  rintro e w1 ⟨rfl, hq⟩
  rw [e_ied, h1]
  have hq1 := quiet_trans hq0 hq
  have hc1 := quiet_cells hq1 hc
  have hg1 := quiet_cells hq1 hgc
  clear hq hq0 hc0 hg0
  go_wp2_with fail
  refine (zzEnds_any _ g 0 (q + 3) (q + 3) _ (q + 3) (by first | rfl | omega | (rw [IntKind.wrap_i64]; omega)) _ z _ (by omega) (by omega) (fun _ => rfl) hc1).mono ?_
  rintro e w2 ⟨rfl, hq⟩
  rw [e_eed, h2]
  have hq2 := quiet_trans hq1 hq
  have hc2 := quiet_cells hq2 hc
  have hg2 := quiet_cells hq2 hgc
  clear hq hq1 hc1 hg1
  go_wp2_with fail
  refine (zzEnds_any _ g 0 (q + 3) (q + 3) _ (q + 3) (by first | rfl | omega | (rw [IntKind.wrap_i64]; omega)) _ z _ (by omega) (by omega) (fun _ => rfl) hc2).mono ?_
  rintro e w3 ⟨rfl, hq⟩
  rw [e_ed, h3]
  have hq3 := quiet_trans hq2 hq
  have hc3 := quiet_cells hq3 hc
  have hg3 := quiet_cells hq3 hgc
  clear hq hq2 hc2 hg2
  go_wp2_with fail
  refine (zzEnds_any _ g 0 (q + 3) (q + 3) _ (q + 3) (by first | rfl | omega | (rw [IntKind.wrap_i64]; omega)) _ z _ (by omega) (by omega) (fun _ => rfl) hc3).mono ?_
  rintro e w4 ⟨rfl, hq⟩
  rw [e_ing, h4]
  have hq4 := quiet_trans hq3 hq
  have hc4 := quiet_cells hq4 hc
  have hg4 := quiet_cells hq4 hgc
  clear hq hq3 hc3 hg3
  go_wp2_with fail
  refine (zzHasVowel_any _ gc 0 (q + 3) (q + 3) _ q (by first | rfl | omega | (rw [IntKind.wrap_i64]; omega)) z _ (by omega) (by omega) (fun _ => rfl) hg4).mono ?_
  rintro e w8 ⟨rfl, rfl⟩
  rw [hv]
  clear h1 h2 h3 h4 hv
  go_wp2_with fail
  refine (zzEnds_any _ g 0 (q + 3) (q + 3) _ (q) (by first | rfl | omega | (rw [IntKind.wrap_i64]; omega)) _ z _ (by omega) (by omega) (fun _ => rfl) hc4).mono ?_
  rintro e w5 ⟨rfl, hq⟩
  rw [e_at]
  have hq5 := quiet_trans hq4 hq
  have hc5 := quiet_cells hq5 hc
  have hg5 := quiet_cells hq5 hgc
  clear hq hq4 hc4 hg4
  cases hat : ends2 z q 97 116
  case true =>
    have E : Hid (fin z q = (q + 1, some 101)) := fin_e (.inl hat)
    go_wp2_with fail
    refine (zzPlusE_word g 0 (q + 3) (q + 3) _ q (by first | rfl | omega | (rw [IntKind.wrap_i64]; omega)) z _ (by omega) (by omega) (Nat.le_refl _) (by exact hc5)).mono ?_
    rintro e w9 ⟨a9, g9, rfl, hF⟩
    have HF : Hid _ := hF
    clear hF
    go_wp2_with fail
    go_ret
    exact Modeled.of hq5 ⟨a9, g9, rfl, HF.out⟩ _ E.out rfl (fun _ _ => rfl)
  go_wp2_with fail
  refine (zzEnds_any _ g 0 (q + 3) (q + 3) _ (q) (by first | rfl | omega | (rw [IntKind.wrap_i64]; omega)) _ z _ (by omega) (by omega) (fun _ => rfl) hc5).mono ?_
  rintro e w6 ⟨rfl, hq⟩
  rw [e_bl]
  have hq6 := quiet_trans hq5 hq
  have hc6 := quiet_cells hq6 hc
  have hg6 := quiet_cells hq6 hgc
  clear hq hq5 hc5 hg5
  cases hbl : ends2 z q 98 108
  case true =>
    have E : Hid (fin z q = (q + 1, some 101)) := fin_e (.inr (.inl hbl))
    go_wp2_with fail
    refine (zzPlusE_word g 0 (q + 3) (q + 3) _ q (by first | rfl | omega | (rw [IntKind.wrap_i64]; omega)) z _ (by omega) (by omega) (Nat.le_refl _) (by exact hc6)).mono ?_
    rintro e w9 ⟨a9, g9, rfl, hF⟩
    have HF : Hid _ := hF
    clear hF
    go_wp2_with fail
    go_ret
    exact Modeled.of hq6 ⟨a9, g9, rfl, HF.out⟩ _ E.out rfl (fun _ _ => rfl)
  go_wp2_with fail
  refine (zzEnds_any _ g 0 (q + 3) (q + 3) _ (q) (by first | rfl | omega | (rw [IntKind.wrap_i64]; omega)) _ z _ (by omega) (by omega) (fun _ => rfl) hc6).mono ?_
  rintro e w7 ⟨rfl, hq⟩
  rw [e_iz]
  have hq7 := quiet_trans hq6 hq
  have hc7 := quiet_cells hq7 hc
  have hg7 := quiet_cells hq7 hgc
  clear hq hq6 hc6 hg6
  cases hiz : ends2 z q 105 122
  case true =>
    have E : Hid (fin z q = (q + 1, some 101)) := fin_e (.inr (.inr hiz))
    go_wp2_with fail
    refine (zzPlusE_word g 0 (q + 3) (q + 3) _ q (by first | rfl | omega | (rw [IntKind.wrap_i64]; omega)) z _ (by omega) (by omega) (Nat.le_refl _) (by exact hc7)).mono ?_
    rintro e w9 ⟨a9, g9, rfl, hF⟩
    have HF : Hid _ := hF
    clear hF
    go_wp2_with fail
    go_ret
    exact Modeled.of hq7 ⟨a9, g9, rfl, HF.out⟩ _ E.out rfl (fun _ _ => rfl)
  have HD : Hid (∀ k, k < q + 3 → w7.cell? ⟨g, k, none⟩ = some (.int .u8 (z k))) := fun k hk => by have := hc7 k hk; rw [Nat.zero_add] at this; exact this
  have HE : Hid (∀ k, k < q + 3 → w7.cell? ⟨gc, k, none⟩ = some (.bool (st z (k + 1)))) := fun k hk => by have := hg7 k hk; rw [Nat.zero_add] at this; exact this
  have FIN0 : Hid (dbl z q = false → (meas z q ≠ 1 → fin z q = (q, none)) ∧ (cvcB z q = false → fin z q = (q, none)) ∧ (meas z q = 1 → cvcB z q = true → fin z q = (q + 1, some 101))) := fun h => fin_rest hat hbl hiz h
  have FIN1 : Hid (dbl z q = true → fin z q = if z (q - 1) = 108 ∨ z (q - 1) = 115 ∨ z (q - 1) = 122 then (q, none) else (q - 1, none)) := fun h => fin_dbl hat hbl hiz h
  clear hat hbl hiz
  by_cases hq2 : q < 2
  · have FIN : Hid _ := FIN0.out (by unfold dbl; rw [decide_eq_false (by omega)]; rfl)
    have t2 : decide ((2 : Int) ≤ (q : Int)) = false := decide_eq_false (by omega)
    clear FIN0 FIN1
    go_wp2_with fail
    go_big_quiet (fail)
    go_wp2_with fail
    refine (zzMeasure_any _ gc 0 (q + 3) (q + 3) _ (q) (by first | rfl | omega | (rw [IntKind.wrap_i64]; omega)) z _ (by omega) (by omega) (fun _ => rfl) (by exact hg7)).mono ?_
    rintro e w8 ⟨rfl, rfl⟩
    cases hme : ((meas z (q) : Int) == 1)
    · have E : Hid (fin z (q) = (q, none)) := FIN.out.1 (fun e => by rw [e] at hme; cases hme)
      clear FIN
      go_wp2_with fail
      refine (zzPrefix_word g 0 (q + 3) (q + 3) _ (q) (by first | rfl | omega | (rw [IntKind.wrap_i64]; omega)) z _ (by omega) (by omega) (Nat.le_refl _) (by exact hc7)).mono ?_
      rintro e w9 ⟨a9, g9, rfl, hF⟩
      have HF : Hid _ := hF
      clear hF
      go_wp2_with fail
      go_ret
      exact Modeled.of (quiet_trans hq7 ⟨_, rfl⟩) ⟨a9, g9, rfl, HF.out⟩ _ E.out rfl (fun _ _ => rfl)
    · have hme1 : meas z (q) = 1 := by have := beq_iff_eq.1 hme; omega
      have HM : Hid (meas z (q) = 1) := hme1
      clear hme1
      go_wp2_with fail
      refine (zzCVC_any _ _ g 0 (q + 3) (q + 3) gc 0 (q + 3) (q + 3) _ (q) (by first | rfl | omega | (rw [IntKind.wrap_i64]; omega)) z _ (by omega) (by omega) (by omega) (fun _ => rfl) (fun _ => rfl) (by exact hc7) (by exact hg7)).mono ?_
      rintro e w8 ⟨rfl, rfl⟩
      cases hcv : cvcB z (q)
      · have E : Hid (fin z (q) = (q, none)) := FIN.out.2.1 hcv
        clear FIN
        go_wp2_with fail
        refine (zzPrefix_word g 0 (q + 3) (q + 3) _ (q) (by first | rfl | omega | (rw [IntKind.wrap_i64]; omega)) z _ (by omega) (by omega) (Nat.le_refl _) (by exact hc7)).mono ?_
        rintro e w9 ⟨a9, g9, rfl, hF⟩
        have HF : Hid _ := hF
        clear hF
        go_wp2_with fail
        go_ret
        exact Modeled.of (quiet_trans hq7 ⟨_, rfl⟩) ⟨a9, g9, rfl, HF.out⟩ _ E.out rfl (fun _ _ => rfl)
      · have E : Hid (fin z (q) = (q + 1, some 101)) := FIN.out.2.2 HM.out hcv
        clear FIN
        go_wp2_with fail
        refine (zzPlusE_word g 0 (q + 3) (q + 3) _ (q) (by first | rfl | omega | (rw [IntKind.wrap_i64]; omega)) z _ (by omega) (by omega) (Nat.le_refl _) (by exact hc7)).mono ?_
        rintro e w9 ⟨a9, g9, rfl, hF⟩
        have HF : Hid _ := hF
        clear hF
        go_wp2_with fail
        go_ret
        exact Modeled.of (quiet_trans hq7 ⟨_, rfl⟩) ⟨a9, g9, rfl, HF.out⟩ _ E.out rfl (fun _ _ => rfl)
  obtain ⟨p, rfl⟩ : ∃ p, q = p + 2 := ⟨q - 2, by omega⟩
  have y1 := HD.out (p + 1) (by omega)
  have y0 := HD.out p (by omega)
  have y2 := HE.out (p + 1) (by omega)
  have t2 : (2 : Int) ≤ (p : Int) + 2 := by omega
  have v1 : IntKind.i64.wrap ((p : Int) + 2 - 1) = (p : Int) + 1 := by rw [IntKind.wrap_i64]; omega
  have v0 : IntKind.i64.wrap (p : Int) = (p : Int) := by rw [IntKind.wrap_i64]; omega
  clear HD HE
  cases hxx : (z (p + 1) == z p)
  · have FIN : Hid _ := FIN0.out (by show (_ && (z (p + 1) == z p) && _) = false; rw [hxx]; simp)
    clear FIN0 FIN1
    go_wp2_with fail
    go_big_quiet (fail)
    go_wp2_with fail
    refine (zzMeasure_any _ gc 0 (p + 2 + 3) (p + 2 + 3) _ (p + 2) (by first | rfl | omega | (rw [IntKind.wrap_i64]; omega)) z _ (by omega) (by omega) (fun _ => rfl) (by exact hg7)).mono ?_
    rintro e w8 ⟨rfl, rfl⟩
    cases hme : ((meas z (p + 2) : Int) == 1)
    · have E : Hid (fin z (p + 2) = (p + 2, none)) := FIN.out.1 (fun e => by rw [e] at hme; cases hme)
      clear FIN
      go_wp2_with fail
      refine (zzPrefix_word g 0 (p + 2 + 3) (p + 2 + 3) _ (p + 2) (by first | rfl | omega | (rw [IntKind.wrap_i64]; omega)) z _ (by omega) (by omega) (Nat.le_refl _) (by exact hc7)).mono ?_
      rintro e w9 ⟨a9, g9, rfl, hF⟩
      have HF : Hid _ := hF
      clear hF
      go_wp2_with fail
      go_ret
      exact Modeled.of (quiet_trans hq7 ⟨_, rfl⟩) ⟨a9, g9, rfl, HF.out⟩ _ E.out rfl (fun _ _ => rfl)
    · have hme1 : meas z (p + 2) = 1 := by have := beq_iff_eq.1 hme; omega
      have HM : Hid (meas z (p + 2) = 1) := hme1
      clear hme1
      go_wp2_with fail
      refine (zzCVC_any _ _ g 0 (p + 2 + 3) (p + 2 + 3) gc 0 (p + 2 + 3) (p + 2 + 3) _ (p + 2) (by first | rfl | omega | (rw [IntKind.wrap_i64]; omega)) z _ (by omega) (by omega) (by omega) (fun _ => rfl) (fun _ => rfl) (by exact hc7) (by exact hg7)).mono ?_
      rintro e w8 ⟨rfl, rfl⟩
      cases hcv : cvcB z (p + 2)
      · have E : Hid (fin z (p + 2) = (p + 2, none)) := FIN.out.2.1 hcv
        clear FIN
        go_wp2_with fail
        refine (zzPrefix_word g 0 (p + 2 + 3) (p + 2 + 3) _ (p + 2) (by first | rfl | omega | (rw [IntKind.wrap_i64]; omega)) z _ (by omega) (by omega) (Nat.le_refl _) (by exact hc7)).mono ?_
        rintro e w9 ⟨a9, g9, rfl, hF⟩
        have HF : Hid _ := hF
        clear hF
        go_wp2_with fail
        go_ret
        exact Modeled.of (quiet_trans hq7 ⟨_, rfl⟩) ⟨a9, g9, rfl, HF.out⟩ _ E.out rfl (fun _ _ => rfl)
      · have E : Hid (fin z (p + 2) = (p + 2 + 1, some 101)) := FIN.out.2.2 HM.out hcv
        clear FIN
        go_wp2_with fail
        refine (zzPlusE_word g 0 (p + 2 + 3) (p + 2 + 3) _ (p + 2) (by first | rfl | omega | (rw [IntKind.wrap_i64]; omega)) z _ (by omega) (by omega) (Nat.le_refl _) (by exact hc7)).mono ?_
        rintro e w9 ⟨a9, g9, rfl, hF⟩
        have HF : Hid _ := hF
        clear hF
        go_wp2_with fail
        go_ret
        exact Modeled.of (quiet_trans hq7 ⟨_, rfl⟩) ⟨a9, g9, rfl, HF.out⟩ _ E.out rfl (fun _ _ => rfl)
  cases hst : st z (p + 2)
  · have FIN : Hid _ := FIN0.out (by show (_ && st z (p + 2)) = false; rw [hst]; simp)
    rw [hst] at y2
    clear FIN0 FIN1 hst
    go_wp2_with fail
    go_big_quiet (fail)
    go_wp2_with fail
    refine (zzMeasure_any _ gc 0 (p + 2 + 3) (p + 2 + 3) _ (p + 2) (by first | rfl | omega | (rw [IntKind.wrap_i64]; omega)) z _ (by omega) (by omega) (fun _ => rfl) (by exact hg7)).mono ?_
    rintro e w8 ⟨rfl, rfl⟩
    cases hme : ((meas z (p + 2) : Int) == 1)
    · have E : Hid (fin z (p + 2) = (p + 2, none)) := FIN.out.1 (fun e => by rw [e] at hme; cases hme)
      clear FIN
      go_wp2_with fail
      refine (zzPrefix_word g 0 (p + 2 + 3) (p + 2 + 3) _ (p + 2) (by first | rfl | omega | (rw [IntKind.wrap_i64]; omega)) z _ (by omega) (by omega) (Nat.le_refl _) (by exact hc7)).mono ?_
      rintro e w9 ⟨a9, g9, rfl, hF⟩
      have HF : Hid _ := hF
      clear hF
      go_wp2_with fail
      go_ret
      exact Modeled.of (quiet_trans hq7 ⟨_, rfl⟩) ⟨a9, g9, rfl, HF.out⟩ _ E.out rfl (fun _ _ => rfl)
    · have hme1 : meas z (p + 2) = 1 := by have := beq_iff_eq.1 hme; omega
      have HM : Hid (meas z (p + 2) = 1) := hme1
      clear hme1
      go_wp2_with fail
      refine (zzCVC_any _ _ g 0 (p + 2 + 3) (p + 2 + 3) gc 0 (p + 2 + 3) (p + 2 + 3) _ (p + 2) (by first | rfl | omega | (rw [IntKind.wrap_i64]; omega)) z _ (by omega) (by omega) (by omega) (fun _ => rfl) (fun _ => rfl) (by exact hc7) (by exact hg7)).mono ?_
      rintro e w8 ⟨rfl, rfl⟩
      cases hcv : cvcB z (p + 2)
      · have E : Hid (fin z (p + 2) = (p + 2, none)) := FIN.out.2.1 hcv
        clear FIN
        go_wp2_with fail
        refine (zzPrefix_word g 0 (p + 2 + 3) (p + 2 + 3) _ (p + 2) (by first | rfl | omega | (rw [IntKind.wrap_i64]; omega)) z _ (by omega) (by omega) (Nat.le_refl _) (by exact hc7)).mono ?_
        rintro e w9 ⟨a9, g9, rfl, hF⟩
        have HF : Hid _ := hF
        clear hF
        go_wp2_with fail
        go_ret
        exact Modeled.of (quiet_trans hq7 ⟨_, rfl⟩) ⟨a9, g9, rfl, HF.out⟩ _ E.out rfl (fun _ _ => rfl)
      · have E : Hid (fin z (p + 2) = (p + 2 + 1, some 101)) := FIN.out.2.2 HM.out hcv
        clear FIN
        go_wp2_with fail
        refine (zzPlusE_word g 0 (p + 2 + 3) (p + 2 + 3) _ (p + 2) (by first | rfl | omega | (rw [IntKind.wrap_i64]; omega)) z _ (by omega) (by omega) (Nat.le_refl _) (by exact hc7)).mono ?_
        rintro e w9 ⟨a9, g9, rfl, hF⟩
        have HF : Hid _ := hF
        clear hF
        go_wp2_with fail
        go_ret
        exact Modeled.of (quiet_trans hq7 ⟨_, rfl⟩) ⟨a9, g9, rfl, HF.out⟩ _ E.out rfl (fun _ _ => rfl)
  have E0 : Hid (fin z (p + 2) = if z (p + 1) = 108 ∨ z (p + 1) = 115 ∨ z (p + 1) = 122 then (p + 2, none) else (p + 1, none)) := FIN1.out (by show (decide (2 ≤ p + 2) && (z (p + 1) == z p) && st z (p + 2)) = true; rw [hst, hxx, decide_eq_true (by omega)]; rfl)
  rw [hst] at y2
  clear FIN0 FIN1 hst
  by_cases hl : z (p + 1) = 108 ∨ z (p + 1) = 115 ∨ z (p + 1) = 122
  · have E : Hid (fin z (p + 2) = (p + 2, none)) := by have := E0.out; rw [if_pos hl] at this; exact this
    clear E0
    rcases hl with hl | hl | hl
    all_goals
      rw [hl] at y1 hxx
      clear hl
      go_wp2_with fail
      go_big_quiet (fail)
      go_wp2_with fail
      refine (zzPrefix_word g 0 (p + 2 + 3) (p + 2 + 3) _ (p + 2) (by first | rfl | omega | (rw [IntKind.wrap_i64]; omega)) z _ (by omega) (by omega) (Nat.le_refl _) (by exact hc7)).mono ?_
      rintro e w9 ⟨a9, g9, rfl, hF⟩
      have HF : Hid _ := hF
      clear hF
      go_wp2_with fail
      go_ret
      exact Modeled.of (quiet_trans hq7 ⟨_, rfl⟩) ⟨a9, g9, rfl, HF.out⟩ _ E.out rfl (fun _ _ => rfl)
  · have E : Hid (fin z (p + 2) = (p + 1, none)) := by have := E0.out; rw [if_neg hl] at this; exact this
    have l1 : (z (p + 1) == 108) = false := by simp; exact fun h => hl (.inl h)
    have l2 : (z (p + 1) == 115) = false := by simp; exact fun h => hl (.inr (.inl h))
    have l3 : (z (p + 1) == 122) = false := by simp; exact fun h => hl (.inr (.inr h))
    clear E0 hl
    go_wp2_with fail
    go_big_quiet (fail)
    go_wp2_with fail
    refine (zzPrefix_word g 0 (p + 2 + 3) (p + 2 + 3) _ (p + 1) (by first | rfl | omega | (rw [IntKind.wrap_i64]; omega)) z _ (by omega) (by omega) (Nat.le_refl _) (by exact hc7)).mono ?_
    rintro e w9 ⟨a9, g9, rfl, hF⟩
    have HF : Hid _ := hF
    clear hF
    go_wp2_with fail
    go_ret
    exact Modeled.of (quiet_trans hq7 ⟨_, rfl⟩) ⟨a9, g9, rfl, HF.out⟩ _ E.out rfl (fun _ _ => rfl)

end Go.Proofs.Qxb6602115a
