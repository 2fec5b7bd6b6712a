import Derived.Test.Qxb6602115aStepC
namespace Go.Proofs.Qxb6602115a
open Go.RowKit
open Pl

set_option maxHeartbeats 2000000 in
theorem step_ed (g q : Nat) (z : Nat → Int) (w : World) (hn : q + 2 ≤ 1048576) (hz : ∀ k, k < q + 2 → 0 ≤ z k ∧ z k ≤ 255) (hrow : w.rowIs g 5 (q + 2) (fun k => .int .u8 (z k)))
    (h1 : ends3 z (q + 2) 105 101 100 = false) (h2 : ends3 z (q + 2) 101 101 100 = false) (h3 : ends2 z (q + 2) 101 100 = true) (hv : hasV z q = true) :
    Calls Try.prog 39 #[.slice (some ⟨g, 0, none⟩) (q + 2) (q + 2)] w fun e w' => Stepped w g (q + 2) z (fin z q) e w' := by
  obtain ⟨i5, hi, hz0, hz1, hz2⟩ := info_parts info5
  have hW := Word.refl hrow
  have hzq : ∀ k, k < q → 0 ≤ z k ∧ z k ≤ 255 := fun k hk => hz k (by omega)
  have hm := meas_le z q
  clear hrow
  go_enter Try.func39, Try.ntmps39
  go_wp2_with fail
  refine (suf_ied _ g 0 (q + 2) (q + 2) z _ (by omega) (by omega) (fun _ => rfl) hz (hW.cells (Nat.le_refl _))).mono ?_
  rintro e w1 ⟨rfl, hq⟩
  rw [h1]
  replace hW := hW.quiet hq
  clear hq
  go_wp2_with fail
  refine (suf_eed _ g 0 (q + 2) (q + 2) z _ (by omega) (by omega) (fun _ => rfl) hz (hW.cells (Nat.le_refl _))).mono ?_
  rintro e w2 ⟨rfl, hq⟩
  rw [h2]
  replace hW := hW.quiet hq
  clear hq
  go_wp2_with fail
  refine (suf_ed _ g 0 (q + 2) (q + 2) z _ (by omega) (by omega) (fun _ => rfl) hz (hW.cells (Nat.le_refl _))).mono ?_
  rintro e w3 ⟨rfl, hq⟩
  rw [h3]
  replace hW := hW.quiet hq
  clear hq
  go_wp2_with fail
  refine (hasVowel_any _ g 0 q (q + 2) z _ (by omega) (fun _ => rfl) (hW.cells (by omega))).mono ?_
  rintro e w4 ⟨rfl, rfl⟩
  rw [hv]
  go_wp2_with fail
  refine (suf_at _ g 0 q (q + 2) z _ (by omega) (by omega) (fun _ => rfl) hzq (hW.cells (by omega))).mono ?_
  rintro e wa ⟨rfl, hq⟩
  replace hW := hW.quiet hq
  clear hq
  cases ha : ends2 z q 97 116
  case true =>
    have E : Hid (fin z q = (q + 1, some 101)) := (by unfold fin; rw [if_pos (.inl ha)] : fin z q = (q + 1, some 101))
    obtain ⟨wc, rfl⟩ : ∃ wc : World, wc = wa := ⟨_, rfl⟩
    go_wp2_with (at_builtin; refine wpList_append_one rfl (.tmp 73) (.tmp 74) 22 rfl 5 i5 Try.underlying22 hi hz1 g q (q + 2) (q + 2) _ rfl (hW.row.alloc _) ⟨wc.heap.size, 0, none⟩ 1 (.int .u8 101) rfl ?_ rfl (by omega) (by omega) ?_)
    · simp
    · intro w9 hr ho
      go_wp2_with fail
      go_ret
      rw [E.out]
      exact ⟨rfl, hW.put _ q 101 hr ho⟩
  go_wp2_with fail
  refine (suf_bl _ g 0 q (q + 2) z _ (by omega) (by omega) (fun _ => rfl) hzq (hW.cells (by omega))).mono ?_
  rintro e wb ⟨rfl, hq⟩
  replace hW := hW.quiet hq
  clear hq
  cases hb : ends2 z q 98 108
  case true =>
    have E : Hid (fin z q = (q + 1, some 101)) := (by unfold fin; rw [if_pos (.inr (.inl hb))] : fin z q = (q + 1, some 101))
    obtain ⟨wc, rfl⟩ : ∃ wc : World, wc = wb := ⟨_, rfl⟩
    go_wp2_with (at_builtin; refine wpList_append_one rfl (.tmp 73) (.tmp 74) 22 rfl 5 i5 Try.underlying22 hi hz1 g q (q + 2) (q + 2) _ rfl (hW.row.alloc _) ⟨wc.heap.size, 0, none⟩ 1 (.int .u8 101) rfl ?_ rfl (by omega) (by omega) ?_)
    · simp
    · intro w9 hr ho
      go_wp2_with fail
      go_ret
      rw [E.out]
      exact ⟨rfl, hW.put _ q 101 hr ho⟩
  go_wp2_with fail
  refine (suf_iz _ g 0 q (q + 2) z _ (by omega) (by omega) (fun _ => rfl) hzq (hW.cells (by omega))).mono ?_
  rintro e wd ⟨rfl, hq⟩
  replace hW := hW.quiet hq
  clear hq
  cases hiz : ends2 z q 105 122
  case true =>
    have E : Hid (fin z q = (q + 1, some 101)) := (by unfold fin; rw [if_pos (.inr (.inr hiz))] : fin z q = (q + 1, some 101))
    obtain ⟨wc, rfl⟩ : ∃ wc : World, wc = wd := ⟨_, rfl⟩
    go_wp2_with (at_builtin; refine wpList_append_one rfl (.tmp 73) (.tmp 74) 22 rfl 5 i5 Try.underlying22 hi hz1 g q (q + 2) (q + 2) _ rfl (hW.row.alloc _) ⟨wc.heap.size, 0, none⟩ 1 (.int .u8 101) rfl ?_ rfl (by omega) (by omega) ?_)
    · simp
    · intro w9 hr ho
      go_wp2_with fail
      go_ret
      rw [E.out]
      exact ⟨rfl, hW.put _ q 101 hr ho⟩
  have hno : ¬ (ends2 z q 97 116 = true ∨ ends2 z q 98 108 = true ∨ ends2 z q 105 122 = true) := by rw [ha, hb, hiz]; simp
  have E0 : Hid (fin z q = if dbl z q = true then (if z (q - 1) = 108 ∨ z (q - 1) = 115 ∨ z (q - 1) = 122 then (q, none) else (q - 1, none)) else if meas z q = 1 ∧ cvcB z q = true then (q + 1, some 101) else (q, none)) := by
    show _ = _
    unfold fin; rw [if_neg hno]
  clear hno ha hb hiz
  go_wp2_with fail
  refine (double_any _ g 0 q (q + 2) z _ (by omega) (fun _ => rfl) (hW.cells (by omega))).mono ?_
  rintro e we ⟨rfl, hq⟩
  replace hW := hW.quiet hq
  clear hq
  cases hd : dbl z q
  case true =>
    have E1 : Hid (fin z q = if z (q - 1) = 108 ∨ z (q - 1) = 115 ∨ z (q - 1) = 122 then (q, none) else (q - 1, none)) := by
      show _ = _
      rw [E0.out, if_pos hd]
    have hq2 := dbl_le hd
    clear E0 hd
    obtain ⟨p, rfl⟩ : ∃ p, q = p + 1 := ⟨q - 1, by omega⟩
    have hcell : we.cell? ⟨g, p, none⟩ = some (.int .u8 (z p)) := hW.row.cell (by omega)
    by_cases hl : z p = 108
    · have E : Hid (fin z (p + 1) = (p + 1, none)) := E1.out.trans (if_pos (.inl hl))
      rw [hl] at hcell
      clear hl E1
      go_wp2_with fail
      go_ret
      rw [E.out]
      exact ⟨rfl, hW.none _⟩
    by_cases hs : z p = 115
    · have E : Hid (fin z (p + 1) = (p + 1, none)) := E1.out.trans (if_pos (.inr (.inl hs)))
      rw [hs] at hcell
      clear hs E1
      go_wp2_with fail
      go_ret
      rw [E.out]
      exact ⟨rfl, hW.none _⟩
    by_cases hzz : z p = 122
    · have E : Hid (fin z (p + 1) = (p + 1, none)) := E1.out.trans (if_pos (.inr (.inr hzz)))
      rw [hzz] at hcell
      clear hzz E1
      go_wp2_with fail
      go_ret
      rw [E.out]
      exact ⟨rfl, hW.none _⟩
    have E : Hid (fin z (p + 1) = (p, none)) := E1.out.trans (if_neg (by rw [show p + 1 - 1 = p from rfl]; simp [hl, hs, hzz]))
    have b1 : (z p == 108) = false := by simp [hl]
    have b2 : (z p == 115) = false := by simp [hs]
    have b3 : (z p == 122) = false := by simp [hzz]
    clear hl hs hzz E1
    go_wp2_with fail
    go_ret
    rw [E.out]
    exact ⟨rfl, hW.none _⟩
  have E1 : Hid (fin z q = if meas z q = 1 ∧ cvcB z q = true then (q + 1, some 101) else (q, none)) := by
    show _ = _
    rw [E0.out, if_neg (by rw [hd]; simp)]
  clear E0 hd
  go_wp2_with fail
  refine (measure_any _ g 0 q (q + 2) z _ (by omega) (fun _ => rfl) (hW.cells (by omega))).mono ?_
  rintro e wf ⟨rfl, rfl⟩
  by_cases h1m : meas z q = 1
  · have H1 : Hid (meas z q = 1) := h1m
    rw [h1m]
    clear h1m
    go_wp2_with fail
    refine (endsCVC_any _ g 0 q (q + 2) z _ (by omega) (fun _ => rfl) (hW.cells (by omega))).mono ?_
    rintro e wf' ⟨rfl, rfl⟩
    cases hcv : cvcB z q
    · have E : Hid (fin z q = (q, none)) := E1.out.trans (if_neg (by rw [hcv]; simp))
      clear hcv E1
      go_wp2_with fail
      go_ret
      rw [E.out]
      exact ⟨rfl, hW.none _⟩
    · have E : Hid (fin z q = (q + 1, some 101)) := E1.out.trans (if_pos ⟨H1.out, hcv⟩)
      clear hcv E1
      obtain ⟨wc, rfl⟩ : ∃ wc : World, wc = wf' := ⟨_, rfl⟩
      go_wp2_with (at_builtin; refine wpList_append_one rfl (.tmp 103) (.tmp 104) 22 rfl 5 i5 Try.underlying22 hi hz1 g q (q + 2) (q + 2) _ rfl (hW.row.alloc _) ⟨wc.heap.size, 0, none⟩ 1 (.int .u8 101) rfl ?_ rfl (by omega) (by omega) ?_)
      · simp
      · intro w9 hr ho
        go_wp2_with fail
        go_ret
        rw [E.out]
        exact ⟨rfl, hW.put _ q 101 hr ho⟩
  · have E : Hid (fin z q = (q, none)) := E1.out.trans (if_neg (fun h => h1m h.1))
    have hmb : ((meas z q : Int) == 1) = false := by simp; omega
    clear h1m E1
    go_wp2_with fail
    go_ret
    rw [E.out]
    exact ⟨rfl, hW.none _⟩

end Go.Proofs.Qxb6602115a
