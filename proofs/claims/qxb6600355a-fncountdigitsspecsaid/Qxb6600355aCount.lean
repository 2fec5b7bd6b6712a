import Derived.Test.Qxb6600355aProg
import Derived.WalkKit
import Derived.Below
namespace Go.Proofs.Qxb6600355a
open Go.RowKit

/-- The k-th byte as a number (0 behind the end). -/
def zb (s : ByteArray) (k : Nat) : Int := if h : k < s.size then ((s[k]'h).toNat : Int) else 0
theorem zb_at {s : ByteArray} {k : Nat} (h : k < s.size) : ((s[k]'h).toNat : Int) = zb s k := by unfold zb; rw [dif_pos h]

/-- Is it a decimal digit? -/
def dig (c : Int) : Bool := decide (48 ≤ c) && decide (c ≤ 57)
theorem dig_iff {c : Int} : dig c = true ↔ 48 ≤ c ∧ c ≤ 57 := by unfold dig; simp
theorem dig_no {c : Int} : dig c = false ↔ c < 48 ∨ 57 < c := by
  cases h : dig c
  · simp only [true_iff]
    rcases (show c < 48 ∨ (48 ≤ c ∧ c ≤ 57) ∨ 57 < c by omega) with e | e | e
    · exact .inl e
    · rw [dig_iff.2 e] at h; cases h
    · exact .inr e
  · have := dig_iff.1 h
    constructor
    · intro e; cases e
    · intro e; omega

/-- d is the length of the run of digits with which s begins. -/
structure IsRun (s : ByteArray) (d : Nat) : Prop where
  le : d ≤ s.size
  all : ∀ j, j < d → dig (zb s j) = true
  stop : d < s.size → dig (zb s d) = false

set_option maxHeartbeats 400000 in
theorem run_any (s : ByteArray) (w : World) (hs : s.size ≤ 9223372036854775807) :
    Calls Try.prog 9 #[.string s] w fun e w' => ∃ d : Nat, e = .returned (.int .i64 d) ∧ w' = w ∧ IsRun s d := by
  go_enter Try.func9, Try.ntmps9
  go_wp2
  go_loop [3] (fun i => ∃ k : Nat, k ≤ s.size ∧ i = .int .i64 k ∧ Hid (∀ j, j < k → dig (zb s j) = true)) (fun i => s.size - (intOf i).toNat)
  case atStart => exact ⟨0, Nat.zero_le _, rfl, fun j h => absurd h (by omega)⟩
  case round =>
    obtain ⟨k, hk, rfl, HA⟩ := hrel
    by_cases hlt : k < s.size
    · have hz := zb_at hlt
      cases hd : dig (zb s k)
      · have HR : Hid (IsRun s k) := ⟨hk, HA.out, fun _ => hd⟩
        have hd' := dig_no.1 hd
        clear hd
        generalize zb s k = x at *
        rcases hd' with h | h
        · go_wp2
          go_ret
          exact ⟨k, rfl, rfl, HR.out⟩
        · have h48 : 48 ≤ x := by omega
          go_wp2
          go_ret
          exact ⟨k, rfl, rfl, HR.out⟩
      · have HN : Hid (∀ j, j < k + 1 → dig (zb s j) = true) := fun j hj => by
          by_cases e : j = k
          · rw [e]; exact hd
          · exact HA.out j (by omega)
        obtain ⟨h1, h2⟩ := dig_iff.1 hd
        clear hd
        generalize zb s k = x at *
        go_wp2
        go_round
        case rel => exact ⟨k + 1, by omega, by go_num, HN⟩
        case measure => simp [intOf]; omega
    · obtain rfl : k = s.size := by omega
      go_wp2
      go_ret
      exact ⟨_, rfl, rfl, Nat.le_refl _, HA.out, fun h => absurd h (by omega)⟩

set_option maxHeartbeats 400000 in
theorem isDigit_any (c : Int) (w : World) : Calls Try.prog 7 #[.int .u8 c] w fun e w' => e = .returned (.bool (dig c)) ∧ w' = w := by
  cases h : dig c
  · rcases dig_no.1 h with h1 | h1
    · clear h
      go_enter Try.func7, Try.ntmps7
      go_wp2
      go_ret
      exact ⟨rfl, rfl⟩
    · have h2 : 48 ≤ c := by omega
      have hd : decide (c ≤ 57) = false := decide_eq_false (by omega)
      clear h
      go_enter Try.func7, Try.ntmps7
      go_wp2
      go_ret
      exact ⟨rfl, rfl⟩
  · obtain ⟨h1, h2⟩ := dig_iff.1 h
    clear h
    go_enter Try.func7, Try.ntmps7
    go_wp2
    go_ret
    exact ⟨rfl, rfl⟩

set_option maxHeartbeats 400000 in
theorem zzCount_any (s : ByteArray) (w : World) (hs : s.size ≤ 9223372036854775807) :
    Calls Try.prog 6 #[.string s] w fun e w' => ∃ d : Nat, e = .returned (.int .i64 d) ∧ w' = w ∧ IsRun s d := by
  go_enter Try.func6, Try.ntmps6
  go_wp2_with fail
  refine (run_any s _ hs).mono ?_
  rintro e w' ⟨d, rfl, rfl, hr⟩
  have HR : Hid _ := hr
  clear hr
  go_wp2_with fail
  go_ret
  exact ⟨d, rfl, rfl, HR.out⟩

set_option maxHeartbeats 400000 in
theorem fits5 (s : ByteArray) (w : World) (h : s.size ≤ 1048576) : Calls Try.prog 5 #[.string s] w fun e w' => e = .returned (.bool true) ∧ w' = w := by
  go_enter Try.func5, Try.ntmps5
  go_wp2
  go_ret
  exact ⟨rfl, rfl⟩
set_option maxHeartbeats 400000 in
theorem fits5_no (s : ByteArray) (w : World) (h : 1048576 < s.size) : Calls Try.prog 5 #[.string s] w fun e w' => e = .returned (.bool false) ∧ w' = w := by
  go_enter Try.func5, Try.ntmps5
  go_wp2
  go_ret
  exact ⟨rfl, rfl⟩

/-- A counter that has come to some place up to d. -/
def AtMost (d : Nat) (i : Value) : Prop := ∃ k : Nat, k ≤ d ∧ i = .int .i64 k

set_option maxHeartbeats 800000 in
theorem lawCount (s : ByteArray) (w : World) (hs : s.size ≤ 9223372036854775807) :
    Calls Try.prog 3 #[.string s] w fun e w' => e = .returned (.bool true) ∧ w' = w := by
  by_cases h1 : 1048576 < s.size
  · go_enter Try.func3, Try.ntmps3
    go_wp2_with fail
    refine (fits5_no s _ h1).mono ?_
    rintro e w' ⟨rfl, rfl⟩
    go_wp2
    go_ret
    exact ⟨rfl, rfl⟩
  have h1' : s.size ≤ 1048576 := by omega
  go_enter Try.func3, Try.ntmps3
  go_wp2_with fail
  refine (fits5 s _ h1').mono ?_
  rintro e w' ⟨rfl, rfl⟩
  go_wp2_with fail
  refine (zzCount_any s _ hs).mono ?_
  rintro e w' ⟨d, rfl, rfl, hr⟩
  have hle := hr.le
  have HALL : Hid _ := hr.all
  have HSTOP : Hid _ := hr.stop
  clear hr
  have t1 : decide ((d : Int) < 0) = false := decide_eq_false (by omega)
  have t2 : decide (s.size < d) = false := decide_eq_false (by omega)
  go_wp2_with fail
  clear t1 t2
  go_loop [4] (fun i => AtMost d i) (fun i => d - (intOf i).toNat)
  case atStart => exact ⟨0, Nat.zero_le _, rfl⟩
  case round =>
    obtain ⟨k, hk, rfl⟩ := hrel
    by_cases hlt : k < d
    · have hz := zb_at (s := s) (k := k) (by omega)
      have h4 : k < s.size := by omega
      have hd := HALL.out k hlt
      generalize zb s k = x at *
      go_wp2_with fail
      refine (isDigit_any x _).mono ?_
      rintro e w' ⟨rfl, rfl⟩
      rw [hd]
      clear hd
      go_wp2_with fail
      go_round
      case rel => exact ⟨k + 1, by omega, by go_num⟩
      case measure => simp [intOf]; omega
    · obtain rfl : k = d := by omega
      by_cases he : k = s.size
      · have b1 : ((k : Int) == (s.size : Int)) = true := by simp; omega
        clear he
        go_wp2_with fail
        go_ret
        exact ⟨rfl, rfl⟩
      · have b1 : ((k : Int) == (s.size : Int)) = false := by simp; omega
        have h4 : k < s.size := by omega
        have hz := zb_at h4
        have hd := HSTOP.out h4
        clear he
        generalize zb s k = x at *
        go_wp2_with fail
        refine (isDigit_any x _).mono ?_
        rintro e w' ⟨rfl, rfl⟩
        rw [hd]
        clear hd
        go_wp2_with fail
        go_ret
        exact ⟨rfl, rfl⟩
end Go.Proofs.Qxb6600355a
