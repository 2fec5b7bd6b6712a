import Derived.Test.Qxb6600351aProg
import Derived.WalkKit
namespace Go.Proofs.Qxb6600351a
open Go.RowKit

/-- The digit's value: what both functions compute. -/
def dv (c : Int) : Int := if 48 ≤ c ∧ c ≤ 57 then c - 48 else if 97 ≤ c ∧ c ≤ 102 then c - 87 else if 65 ≤ c ∧ c ≤ 70 then c - 55 else -1

set_option maxHeartbeats 400000 in
theorem digitValue_any (c : Int) (w : World) : Calls Try.prog 15 #[.int .i32 c] w fun e w' => e = .returned (.int .i64 (dv c)) ∧ w' = w := by
  unfold dv
  by_cases h1 : 48 ≤ c ∧ c ≤ 57
  · rw [if_pos h1]
    obtain ⟨h2, h3⟩ := h1
    go_enter Try.func15, Try.ntmps15
    go_wp2
    go_ret
    exact ⟨rfl, rfl⟩
  rw [if_neg h1]
  by_cases h2 : 97 ≤ c ∧ c ≤ 102
  · rw [if_pos h2]
    obtain ⟨h3, h4⟩ := h2
    have e : c - 87 = c - 97 + 10 := by omega
    rw [e]
    clear e
    have k1 : ¬ c ≤ 57 := by omega
    go_enter Try.func15, Try.ntmps15
    go_wp2
    go_ret
    exact ⟨rfl, rfl⟩
  rw [if_neg h2]
  by_cases h3 : 65 ≤ c ∧ c ≤ 70
  · rw [if_pos h3]
    obtain ⟨h4, h5⟩ := h3
    have e : c - 55 = c - 65 + 10 := by omega
    rw [e]
    clear e
    have k1 : ¬ c ≤ 57 := by omega
    have k2 : ¬ 97 ≤ c := by omega
    go_enter Try.func15, Try.ntmps15
    go_wp2
    go_ret
    exact ⟨rfl, rfl⟩
  rw [if_neg h3]
  rcases (show c < 48 ∨ (57 < c ∧ c < 65) ∨ (70 < c ∧ c < 97) ∨ 102 < c by omega) with h | ⟨h, h'⟩ | ⟨h, h'⟩ | h
  all_goals
    clear h1 h2 h3
    go_enter Try.func15, Try.ntmps15
    go_wp2
    go_ret
    exact ⟨rfl, rfl⟩

def lo (k : Nat) : Int := if k < 10 then 48 + k else 87 + k
def up (k : Nat) : Int := if k < 10 then 48 + k else 55 + k

theorem lo_at : ∀ k : Fin 16, (((⟨#[48, 49, 50, 51, 52, 53, 54, 55, 56, 57, 97, 98, 99, 100, 101, 102]⟩ : ByteArray)[k.1]'k.2).toNat : Int) = lo k := by decide
theorem up_at : ∀ k : Fin 16, (((⟨#[48, 49, 50, 51, 52, 53, 54, 55, 56, 57, 65, 66, 67, 68, 69, 70]⟩ : ByteArray)[k.1]'k.2).toNat : Int) = up k := by decide

theorem dv_lo {k : Nat} (h : k < 16) : dv (lo k) = k := by unfold dv lo; split <;> split <;> (try split) <;> (try split) <;> omega
theorem dv_up {k : Nat} (h : k < 16) : dv (up k) = k := by unfold dv up; split <;> split <;> (try split) <;> (try split) <;> omega
/-- What no table holds has no value. -/
theorem dv_none {c : Int} (h : ∀ k, k < 16 → c ≠ lo k ∧ c ≠ up k) : dv c = -1 := by
  unfold dv
  split
  · rename_i h1
    have := (h (c - 48).toNat (by omega)).1
    unfold lo at this
    rw [if_pos (by omega)] at this
    omega
  split
  · rename_i h1
    have := (h (c - 87).toNat (by omega)).1
    unfold lo at this
    rw [if_neg (by omega)] at this
    omega
  split
  · rename_i h1
    have := (h (c - 55).toNat (by omega)).2
    unfold up at this
    rw [if_neg (by omega)] at this
    omega
  · rfl

set_option maxHeartbeats 800000 in
theorem hexTable_any (c : Int) (w : World) : Calls Try.prog 13 #[.int .i32 c] w fun e w' => e = .returned (.int .i64 (dv c)) ∧ w' = w := by
  go_enter Try.func13, Try.ntmps13
  go_wp2
  go_loop [3] (fun i => ∃ k : Nat, k ≤ 16 ∧ i = .int .i64 k ∧ Hid (∀ j, j < k → c ≠ lo j ∧ c ≠ up j)) (fun i => 16 - (intOf i).toNat)
  case atStart => exact ⟨0, by omega, rfl, fun j h => absurd h (by omega)⟩
  case round =>
    obtain ⟨k, hk, rfl, HN⟩ := hrel
    by_cases hlt : k < 16
    · have hl := lo_at ⟨k, hlt⟩
      have hu := up_at ⟨k, hlt⟩
      have HL : Hid (dv (lo k) = k) := dv_lo hlt
      have HU : Hid (dv (up k) = k) := dv_up hlt
      have l1 : 0 ≤ lo k ∧ lo k ≤ 255 := by unfold lo; split <;> omega
      have u1 : 0 ≤ up k ∧ up k ≤ 255 := by unfold up; split <;> omega
      obtain ⟨l1, l2⟩ := l1
      obtain ⟨u1, u2⟩ := u1
      have NX : Hid (c ≠ lo k → c ≠ up k → ∀ j, j < k + 1 → c ≠ lo j ∧ c ≠ up j) := fun h1 h2 j hj => by
        by_cases e : j = k
        · rw [e]; exact ⟨h1, h2⟩
        · exact HN.out j (by omega)
      simp only at hl hu
      generalize lo k = x at *
      generalize up k = y at *
      by_cases h1 : c = x
      · subst h1
        go_wp2
        go_ret
        exact ⟨by rw [HL.out]; rfl, rfl⟩
      have b1 : (c == x) = false := by simp [h1]
      by_cases h2 : c = y
      · subst h2
        clear h1
        go_wp2
        go_ret
        exact ⟨by rw [HU.out]; rfl, rfl⟩
      have b2 : (c == y) = false := by simp [h2]
      have NX2 : Hid _ := NX.out h1 h2
      clear h1 h2 NX
      go_wp2
      go_round
      case rel => exact ⟨k + 1, by omega, by go_num, NX2⟩
      case measure => simp [intOf]; omega
    · obtain rfl : k = 16 := by omega
      have HV : Hid (dv c = -1) := dv_none HN.out
      go_wp2
      go_ret
      exact ⟨by rw [HV.out]; rfl, rfl⟩

set_option maxHeartbeats 400000 in
theorem zzDigit_any (c : Int) (w : World) : Calls Try.prog 12 #[.int .i32 c] w fun e w' => e = .returned (.int .i64 (dv c)) ∧ w' = w := by
  go_enter Try.func12, Try.ntmps12
  go_wp2_with fail
  refine (digitValue_any c _).mono ?_
  rintro e w' ⟨rfl, rfl⟩
  go_wp2
  go_ret
  exact ⟨rfl, rfl⟩

set_option maxHeartbeats 400000 in
theorem lawHex (c : Int) (w : World) : Calls Try.prog 5 #[.int .i32 c] w fun e w' => e = .returned (.bool true) ∧ w' = w := by
  go_enter Try.func5, Try.ntmps5
  go_wp2_with fail
  refine (zzDigit_any c _).mono ?_
  rintro e w' ⟨rfl, rfl⟩
  go_wp2_with fail
  refine (hexTable_any c _).mono ?_
  rintro e w' ⟨rfl, rfl⟩
  go_wp2
  go_ret
  exact ⟨by simp, rfl⟩
end Go.Proofs.Qxb6600351a
