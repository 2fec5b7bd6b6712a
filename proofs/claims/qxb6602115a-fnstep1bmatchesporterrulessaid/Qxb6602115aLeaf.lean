import Derived.Test.Qxb6602115aProg
import Derived.Test.Qxb6602115aPlain
import Derived.WalkKit
namespace Go.Proofs.Qxb6602115a
open Go.RowKit
open Pl

set_option maxHeartbeats 400000 in
theorem vowel_any (c : Int) (w : World) : Calls Try.prog 38 #[.int .u8 c] w fun e w' => e = .returned (.bool (vow c)) ∧ w' = w := by
  unfold vow
  by_cases h1 : c = 97
  · subst h1; go_enter Try.func38, Try.ntmps38; go_wp2; go_ret; exact ⟨rfl, rfl⟩
  by_cases h2 : c = 101
  · subst h2; go_enter Try.func38, Try.ntmps38; go_wp2; go_ret; exact ⟨rfl, rfl⟩
  by_cases h3 : c = 105
  · subst h3; go_enter Try.func38, Try.ntmps38; go_wp2; go_ret; exact ⟨rfl, rfl⟩
  by_cases h4 : c = 111
  · subst h4; go_enter Try.func38, Try.ntmps38; go_wp2; go_ret; exact ⟨rfl, rfl⟩
  by_cases h5 : c = 117
  · subst h5; go_enter Try.func38, Try.ntmps38; go_wp2; go_ret; exact ⟨rfl, rfl⟩
  have e1 : (c == 97) = false := by simp [h1]
  have e2 : (c == 101) = false := by simp [h2]
  have e3 : (c == 105) = false := by simp [h3]
  have e4 : (c == 111) = false := by simp [h4]
  have e5 : (c == 117) = false := by simp [h5]
  rw [e1, e2, e3, e4, e5]
  go_enter Try.func38, Try.ntmps38; go_wp2; go_ret; exact ⟨rfl, rfl⟩

set_option maxHeartbeats 400000 in
theorem consonant_any (c : Int) (av : Bool) (w : World) : Calls Try.prog 50 #[.int .u8 c, .bool av] w fun e w' => e = .returned (.bool (consB c av)) ∧ w' = w := by
  unfold consB vow
  by_cases h1 : c = 97
  · subst h1; go_enter Try.func50, Try.ntmps50; go_wp2; go_ret; exact ⟨rfl, rfl⟩
  by_cases h2 : c = 101
  · subst h2; go_enter Try.func50, Try.ntmps50; go_wp2; go_ret; exact ⟨rfl, rfl⟩
  by_cases h3 : c = 105
  · subst h3; go_enter Try.func50, Try.ntmps50; go_wp2; go_ret; exact ⟨rfl, rfl⟩
  by_cases h4 : c = 111
  · subst h4; go_enter Try.func50, Try.ntmps50; go_wp2; go_ret; exact ⟨rfl, rfl⟩
  by_cases h5 : c = 117
  · subst h5; go_enter Try.func50, Try.ntmps50; go_wp2; go_ret; exact ⟨rfl, rfl⟩
  have e1 : (c == 97) = false := by simp [h1]
  have e2 : (c == 101) = false := by simp [h2]
  have e3 : (c == 105) = false := by simp [h3]
  have e4 : (c == 111) = false := by simp [h4]
  have e5 : (c == 117) = false := by simp [h5]
  rw [e1, e2, e3, e4, e5]
  by_cases h6 : c = 121
  · subst h6; go_enter Try.func50, Try.ntmps50; go_wp2; go_ret; exact ⟨rfl, rfl⟩
  have e6 : (c == 121) = false := by simp [h6]
  rw [if_neg (by simp), if_neg h6]
  go_enter Try.func50, Try.ntmps50; go_wp2; go_ret; exact ⟨rfl, rfl⟩

set_option maxHeartbeats 400000 in
theorem isConsonant_any (b off n c : Nat) (i : Int) (z : Nat → Int) (w : World) (hn : n ≤ 9223372036854775807) (h0 : 0 ≤ i) (hi : i < n)
    (hc : ∀ k, k < n → w.cell? ⟨b, off + k, none⟩ = some (.int .u8 (z k))) :
    Calls Try.prog 48 #[.slice (some ⟨b, off, none⟩) n c, .int .i64 i] w fun e w' => e = .returned (.bool (st z (i.toNat + 1))) ∧ w' = w := by
  obtain ⟨m, rfl⟩ := Int.eq_ofNat_of_zero_le h0
  rw [Int.toNat_natCast]
  go_enter Try.func48, Try.ntmps48
  go_wp2
  go_loop [5, 6] (fun s j => ∃ k : Nat, k ≤ m + 1 ∧ j = .int .i64 k ∧ s = .bool (st z k)) (fun _ j => m + 1 - (intOf j).toNat)
  case atStart => exact ⟨0, Nat.zero_le _, rfl, rfl⟩
  case round =>
    obtain ⟨k, hk, rfl, rfl⟩ := hrel
    by_cases hlt : k ≤ m
    · have hcell := hc k (by omega)
      by_cases hk0 : k = 0
      · subst hk0
        rw [Nat.add_zero] at hcell
        go_wp2_with (go_at_call 50; refine (consonant_any _ _ _).mono ?_; rintro e w' ⟨rfl, rfl⟩)
        go_round
        case rel => exact ⟨0 + 1, by omega, by go_num, rfl⟩
        case measure => simp [intOf]
      · have hb0 : ((k : Int) == 0) = false := by simp; omega
        go_wp2_with (go_at_call 50; refine (consonant_any _ _ _).mono ?_; rintro e w' ⟨rfl, rfl⟩)
        go_round
        case rel => exact ⟨k + 1, by omega, by go_num, by rw [st_succ]; simp [hk0]⟩
        case measure => simp [intOf]; omega
    · obtain rfl : k = m + 1 := by omega
      go_wp2
      go_ret
      exact ⟨rfl, rfl⟩
end Go.Proofs.Qxb6602115a
