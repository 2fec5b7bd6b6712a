import Derived.Test.Qxb6602115aLeaf
import Derived.Test.Qxb6602115aPlainB
import Derived.Deep.QuietTactic
import Derived.BigQuiet
namespace Go.Proofs.Qxb6602115a
open Go.RowKit
open Pl

set_option maxHeartbeats 400000 in
theorem measure_any (a : Option Addr) (b off n c : Nat) (z : Nat → Int) (w : World) (hn : n ≤ 9223372036854775807) (ha : 0 < n → a = some ⟨b, off, none⟩)
    (hc : ∀ k, k < n → w.cell? ⟨b, off + k, none⟩ = some (.int .u8 (z k))) :
    Calls Try.prog 45 #[.slice a n c] w fun e w' => e = .returned (.int .i64 (meas z n)) ∧ w' = w := by
  go_enter Try.func45, Try.ntmps45
  go_wp2
  go_loop [3, 4, 10] (fun m s j => ∃ k : Nat, k ≤ n ∧ j = .int .i64 k ∧ s = .bool (st z k) ∧ m = .int .i64 (meas z k)) (fun _ _ j => n - (intOf j).toNat)
  case atStart => exact ⟨0, Nat.zero_le _, rfl, rfl, rfl⟩
  case round =>
    obtain ⟨k, hk, rfl, rfl, rfl⟩ := hrel
    have hle := meas_le z k
    by_cases hlt : k < n
    · obtain rfl := ha (by omega)
      have hcell := hc k hlt
      clear hc ha
      by_cases hk0 : k = 0
      · subst hk0
        rw [Nat.add_zero] at hcell
        have e1 : st z (0 + 1) = consB (z 0) true := rfl
        have E1 : Hid (st z (0 + 1) = consB (z 0) true) := e1
        clear e1
        cases hcv : consB (z 0) true
        all_goals
          go_wp2_with (go_at_call 50; refine (consonant_any _ _ _).mono ?_; rintro e w' ⟨rfl, rfl⟩; simp only [hcv])
          go_round
          case rel => exact ⟨0 + 1, by omega, by go_num, by rw [E1.out, hcv], by rw [meas_succ]; simp⟩
          case measure => simp [intOf]; omega
      · have hb0 : ((k : Int) == 0) = false := by simp; omega
        have hb1 : (0 : Int) < (k : Int) := by omega
        have e1 : st z (k + 1) = consB (z k) (!st z k) := by rw [st_succ]; simp [hk0]
        cases hp : st z k
        · rw [hp] at e1
          have E1 : Hid (st z (k + 1) = consB (z k) true) := e1
          have HP : Hid (st z k = false) := hp
          clear e1 hp
          cases hcv : consB (z k) true
          · go_wp2_with (go_at_call 50; refine (consonant_any _ _ _).mono ?_; rintro e w' ⟨rfl, rfl⟩; simp only [hcv])
            go_round
            case rel => exact ⟨k + 1, by omega, by go_num, by rw [E1.out, hcv], by rw [meas_miss (E1.out.trans hcv)]⟩
            case measure => simp [intOf]; omega
          · go_wp2_with (go_at_call 50; refine (consonant_any _ _ _).mono ?_; rintro e w' ⟨rfl, rfl⟩; simp only [hcv])
            go_round
            case rel => exact ⟨k + 1, by omega, by go_num, by rw [E1.out, hcv], by rw [meas_hit (E1.out.trans hcv) (by omega) HP.out]; go_num⟩
            case measure => simp [intOf]; omega
        · rw [hp] at e1
          have E1 : Hid (st z (k + 1) = consB (z k) false) := e1
          have HP : Hid (st z k = true) := hp
          clear e1 hp
          cases hcv : consB (z k) false
          all_goals
            go_wp2_with (go_at_call 50; refine (consonant_any _ _ _).mono ?_; rintro e w' ⟨rfl, rfl⟩; simp only [hcv])
            go_round
            case rel => exact ⟨k + 1, by omega, by go_num, by rw [E1.out, hcv], by rw [meas_succ, E1.out, hcv, HP.out]; simp⟩
            case measure => simp [intOf]; omega
    · obtain rfl : k = n := by omega
      go_wp2
      go_ret
      exact ⟨rfl, rfl⟩

set_option maxHeartbeats 400000 in
theorem hasVowel_any (a : Option Addr) (b off n c : Nat) (z : Nat → Int) (w : World) (hn : n ≤ 9223372036854775807) (ha : 0 < n → a = some ⟨b, off, none⟩)
    (hc : ∀ k, k < n → w.cell? ⟨b, off + k, none⟩ = some (.int .u8 (z k))) :
    Calls Try.prog 46 #[.slice a n c] w fun e w' => e = .returned (.bool (hasV z n)) ∧ w' = w := by
  go_enter Try.func46, Try.ntmps46
  go_wp2
  go_loop [3, 8] (fun s j => ∃ k : Nat, k ≤ n ∧ j = .int .i64 k ∧ s = .bool (st z k) ∧ hasV z k = false) (fun _ j => n - (intOf j).toNat)
  case atStart => exact ⟨0, Nat.zero_le _, rfl, rfl, rfl⟩
  case round =>
    obtain ⟨k, hk, rfl, rfl, hno⟩ := hrel
    have NO : Hid (hasV z k = false) := hno
    clear hno
    by_cases hlt : k < n
    · obtain rfl := ha (by omega)
      have hcell := hc k hlt
      clear hc ha
      by_cases hk0 : k = 0
      · subst hk0
        rw [Nat.add_zero] at hcell
        have E1 : Hid (st z (0 + 1) = consB (z 0) true) := (rfl : st z (0 + 1) = consB (z 0) true)
        cases hcv : consB (z 0) true
        · have HV : Hid (hasV z n = true) := hasV_of hlt (E1.out.trans hcv)
          go_wp2_with (go_at_call 50; refine (consonant_any _ _ _).mono ?_; rintro e w' ⟨rfl, rfl⟩; simp only [hcv])
          go_ret
          exact ⟨by rw [HV.out]; rfl, rfl⟩
        · go_wp2_with (go_at_call 50; refine (consonant_any _ _ _).mono ?_; rintro e w' ⟨rfl, rfl⟩; simp only [hcv])
          go_round
          case rel => exact ⟨0 + 1, by omega, by go_num, by rw [E1.out, hcv], by rw [hasV_succ, E1.out, hcv]; rfl⟩
          case measure => simp [intOf]; omega
      · have hb0 : ((k : Int) == 0) = false := by simp; omega
        have E1 : Hid (st z (k + 1) = consB (z k) (!st z k)) := (by rw [st_succ]; simp [hk0] : st z (k + 1) = consB (z k) (!st z k))
        cases hcv : consB (z k) (!st z k)
        · have HV : Hid (hasV z n = true) := hasV_of hlt (E1.out.trans hcv)
          go_wp2_with (go_at_call 50; refine (consonant_any _ _ _).mono ?_; rintro e w' ⟨rfl, rfl⟩; simp only [hcv])
          go_ret
          exact ⟨by rw [HV.out]; rfl, rfl⟩
        · go_wp2_with (go_at_call 50; refine (consonant_any _ _ _).mono ?_; rintro e w' ⟨rfl, rfl⟩; simp only [hcv])
          go_round
          case rel => exact ⟨k + 1, by omega, by go_num, by rw [E1.out, hcv], by rw [hasV_succ, E1.out, hcv, NO.out]; rfl⟩
          case measure => simp [intOf]; omega
    · obtain rfl : k = n := by omega
      go_wp2
      go_ret
      exact ⟨by rw [NO.out]; rfl, rfl⟩

set_option maxHeartbeats 400000 in
theorem double_any (a : Option Addr) (b off n c : Nat) (z : Nat → Int) (w : World) (hn : n ≤ 9223372036854775807) (ha : 0 < n → a = some ⟨b, off, none⟩)
    (hc : ∀ k, k < n → w.cell? ⟨b, off + k, none⟩ = some (.int .u8 (z k))) :
    Calls Try.prog 47 #[.slice a n c] w fun e w' => e = .returned (.bool (dbl z n)) ∧ ∃ m, w' = w.drewN m := by
  by_cases h2 : n < 2
  · have e : dbl z n = false := by unfold dbl; rw [decide_eq_false (by omega)]; rfl
    rw [e]
    have hd : decide ((2 : Int) ≤ (n : Int)) = false := decide_eq_false (by omega)
    go_enter Try.func47, Try.ntmps47
    go_wp2
    go_big_quiet (fail)
    go_wp2
    go_ret
    exact ⟨rfl, _, rfl⟩
  obtain rfl := ha (by omega)
  obtain ⟨q, rfl⟩ : ∃ q, n = q + 2 := ⟨n - 2, by omega⟩
  have hd : (2 : Int) ≤ (q : Int) + 2 := by omega
  have g1 : w.cell? ⟨b, off + (q + 1), none⟩ = some (.int .u8 (z (q + 1))) := hc _ (by omega)
  have g0 : w.cell? ⟨b, off + q, none⟩ = some (.int .u8 (z q)) := hc _ (by omega)
  cases he : (z (q + 1) == z q)
  · have e : dbl z (q + 2) = false := by unfold dbl; rw [show q + 2 - 1 = q + 1 from rfl, show q + 2 - 2 = q from rfl, he]; simp
    rw [e]
    clear hc
    go_enter Try.func47, Try.ntmps47
    go_wp2
    go_big_quiet (fail)
    go_wp2
    go_ret
    exact ⟨rfl, _, rfl⟩
  · have e : dbl z (q + 2) = st z (q + 2) := by unfold dbl; rw [show q + 2 - 1 = q + 1 from rfl, show q + 2 - 2 = q from rfl, he]; simp
    rw [e]
    have HC : Hid (∀ (w' : World), (∃ m, w' = w.drewN m) → Calls Try.prog 48 #[.slice (some ⟨b, off, none⟩) (q + 2) c, .int .i64 ((q : Int) + 2 - 1)] w' fun e w'' => e = .returned (.bool (st z (q + 2))) ∧ w'' = w') := by
      intro w' hw'
      obtain ⟨m, rfl⟩ := hw'
      have h := isConsonant_any b off (q + 2) c ((q : Int) + 2 - 1) z (w.drewN m) hn (by omega) (by omega) hc
      rw [show ((q : Int) + 2 - 1).toNat + 1 = q + 2 by omega] at h
      exact h
    clear hc
    go_enter Try.func47, Try.ntmps47
    go_wp2
    go_big_quiet ((go_at_call 48; exact Calls.quiet_of_same (HC.out _ ⟨_, rfl⟩)))
    go_wp2
    go_ret
    exact ⟨rfl, _, rfl⟩
end Go.Proofs.Qxb6602115a
