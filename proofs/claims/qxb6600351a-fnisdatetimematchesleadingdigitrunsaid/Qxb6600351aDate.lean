import Derived.Test.Qxb6600351aProg
import Derived.WalkKit
import Derived.Below
namespace Go.Proofs.Qxb6600351a
open Go.RowKit

/-- The k-th byte as a number (0 behind the end). -/
def zb (s : ByteArray) (k : Nat) : Int := if h : k < s.size then ((s[k]'h).toNat : Int) else 0
theorem zb_at {s : ByteArray} {k : Nat} (h : k < s.size) : ((s[k]'h).toNat : Int) = zb s k := by unfold zb; rw [dif_pos h]

/-- Is it a decimal digit? -/
def dig (c : Int) : Bool := decide (48 ≤ c) && decide (c ≤ 57)
theorem dig_iff {c : Int} : dig c = true ↔ 48 ≤ c ∧ c ≤ 57 := by unfold dig; simp
theorem dig_no {c : Int} : dig c = false ↔ c < 48 ∨ 57 < c := by
  cases h : dig c
  · simp only [true_iff]
    rcases (show c < 48 ∨ (48 ≤ c ∧ c ≤ 57) ∨ 57 < c by omega) with e | e | e
    · exact .inl e
    · rw [dig_iff.2 e] at h; cases h
    · exact .inr e
  · have := dig_iff.1 h
    constructor
    · intro e; cases e
    · intro e; omega

/-- Do all places below k hold digits? -/
def digs (s : ByteArray) : Nat → Bool
  | 0 => true
  | k + 1 => digs s k && dig (zb s k)
theorem digs_iff (s : ByteArray) (k : Nat) : digs s k = true ↔ ∀ j, j < k → dig (zb s j) = true := by
  induction k with
  | zero => exact ⟨fun _ j h => absurd h (by omega), fun _ => rfl⟩
  | succ m ih =>
    show (digs s m && dig (zb s m)) = true ↔ _
    rw [Bool.and_eq_true, ih]
    constructor
    · rintro ⟨h1, h2⟩ j hj
      by_cases e : j = m
      · subst e; exact h2
      · exact h1 j (by omega)
    · intro h
      exact ⟨fun j hj => h j (by omega), h m (by omega)⟩
theorem digs_no {s : ByteArray} {j k : Nat} (hj : j < k) (h : dig (zb s j) = false) : digs s k = false := by
  cases e : digs s k
  · rfl
  · have := (digs_iff s k).1 e j hj
    rw [h] at this; cases this

/-- 'n digits, then sep'. -/
def digThen (s : ByteArray) (n : Nat) (sep : Int) : Bool := decide (n < s.size) && (zb s n == sep) && digs s n

/-- d is the length of the run of digits with which s begins. -/
structure IsRun (s : ByteArray) (d : Nat) : Prop where
  le : d ≤ s.size
  all : ∀ j, j < d → dig (zb s j) = true
  stop : d < s.size → dig (zb s d) = false

theorem digThen_run {s : ByteArray} {d n : Nat} {sep : Int} (h : IsRun s d) (hs : dig sep = false) : digThen s n sep = (decide (d < s.size) && (decide (d = n) && (zb s d == sep))) := by
  rw [Bool.eq_iff_iff]
  unfold digThen
  simp only [Bool.and_eq_true, decide_eq_true_eq, beq_iff_eq, digs_iff]
  constructor
  · rintro ⟨⟨h1, h2⟩, h3⟩
    have e : d = n := by
      rcases Nat.lt_trichotomy d n with l | l | l
      · have := h.stop (by omega); rw [h3 d l] at this; cases this
      · exact l
      · have := h.all n l; rw [h2, hs] at this; cases this
    subst e
    exact ⟨h1, rfl, h2⟩
  · rintro ⟨h1, rfl, h2⟩
    exact ⟨⟨h1, h2⟩, h.all⟩

set_option maxHeartbeats 400000 in
theorem run_any (s : ByteArray) (w : World) (hs : s.size ≤ 9223372036854775807) :
    Calls Try.prog 9 #[.string s] w fun e w' => ∃ d : Nat, e = .returned (.int .i64 d) ∧ w' = w ∧ IsRun s d := by
  go_enter Try.func9, Try.ntmps9
  go_wp2
  go_loop [3] (fun i => ∃ k : Nat, k ≤ s.size ∧ i = .int .i64 k ∧ Hid (∀ j, j < k → dig (zb s j) = true)) (fun i => s.size - (intOf i).toNat)
  case atStart => exact ⟨0, Nat.zero_le _, rfl, fun j h => absurd h (by omega)⟩
  case round =>
    obtain ⟨k, hk, rfl, HA⟩ := hrel
    by_cases hlt : k < s.size
    · have hz := zb_at hlt
      cases hd : dig (zb s k)
      · have HR : Hid (IsRun s k) := ⟨hk, HA.out, fun _ => hd⟩
        have hd' := dig_no.1 hd
        clear hd
        generalize zb s k = x at *
        rcases hd' with h | h
        · go_wp2
          go_ret
          exact ⟨k, rfl, rfl, HR.out⟩
        · have h48 : 48 ≤ x := by omega
          go_wp2
          go_ret
          exact ⟨k, rfl, rfl, HR.out⟩
      · have HN : Hid (∀ j, j < k + 1 → dig (zb s j) = true) := fun j hj => by
          by_cases e : j = k
          · rw [e]; exact hd
          · exact HA.out j (by omega)
        obtain ⟨h1, h2⟩ := dig_iff.1 hd
        clear hd
        generalize zb s k = x at *
        go_wp2
        go_round
        case rel => exact ⟨k + 1, by omega, by go_num, HN⟩
        case measure => simp [intOf]; omega
    · obtain rfl : k = s.size := by omega
      go_wp2
      go_ret
      exact ⟨_, rfl, rfl, Nat.le_refl _, HA.out, fun h => absurd h (by omega)⟩

set_option maxHeartbeats 800000 in
theorem then_any (g n : Nat) (sep : Int) (s : ByteArray) (w : World) (hs : s.size ≤ 9223372036854775807) (hn : n ≤ 1000) (hc : w.cell? ⟨g, 0, none⟩ = some (.string s)) :
    Calls Try.prog 16 #[.int .i64 n, .int .u8 sep, .pointer (some ⟨g, 0, none⟩)] w fun e w' => e = .returned (.bool (digThen s n sep)) ∧ w' = w := by
  by_cases h1 : n < s.size
  case neg =>
    have e : digThen s n sep = false := by unfold digThen; rw [decide_eq_false h1]; rfl
    rw [e]
    go_enter Try.func16, Try.ntmps16
    go_wp2
    go_ret
    exact ⟨rfl, rfl⟩
  have hz := zb_at h1
  cases h2 : (zb s n == sep)
  · have e : digThen s n sep = false := by unfold digThen; rw [h2]; simp
    rw [e]
    have h3 : (zb s n != sep) = true := by rw [bne, h2]; rfl
    generalize zb s n = x at *
    go_enter Try.func16, Try.ntmps16
    go_wp2
    go_ret
    exact ⟨rfl, rfl⟩
  have e : digThen s n sep = digs s n := by unfold digThen; rw [h2, decide_eq_true h1]; simp
  rw [e]
  have h3 : (zb s n != sep) = false := by rw [bne, h2]; rfl
  generalize zb s n = x at *
  go_enter Try.func16, Try.ntmps16
  go_wp2
  go_loop [19] (fun i => ∃ k : Nat, k ≤ n ∧ i = .int .i64 k ∧ Hid (digs s k = true)) (fun i => n - (intOf i).toNat)
  case atStart => exact ⟨0, Nat.zero_le _, rfl, (rfl : digs s 0 = true)⟩
  case round =>
    obtain ⟨k, hk, rfl, HA⟩ := hrel
    clear hz h2 h3 e
    by_cases hlt : k < n
    · have hz := zb_at (s := s) (k := k) (by omega)
      have h4 : k < s.size := by omega
      cases hd : dig (zb s k)
      · have HR : Hid (digs s n = false) := digs_no hlt hd
        have hd' := dig_no.1 hd
        clear hd
        generalize zb s k = y at *
        rcases hd' with h | h
        · go_wp2
          go_ret
          exact ⟨by rw [HR.out]; rfl, rfl⟩
        · have h48 : 48 ≤ y := by omega
          go_wp2
          go_ret
          exact ⟨by rw [HR.out]; rfl, rfl⟩
      · have HN : Hid (digs s (k + 1) = true) := (by show (digs s k && dig (zb s k)) = true; rw [HA.out, hd]; rfl : digs s (k + 1) = true)
        obtain ⟨h5, h6⟩ := dig_iff.1 hd
        clear hd
        generalize zb s k = y at *
        go_wp2
        go_round
        case rel => exact ⟨_, _, .int .i64 ((k : Int) + 1), ⟨k + 1, by omega, by go_num, HN⟩, rfl, rfl, rfl⟩
        case measure => simp [intOf]; omega
    · obtain rfl : k = n := by omega
      go_wp2
      go_ret
      exact ⟨by rw [HA.out]; rfl, rfl⟩

theorem then_4 (g : Nat) (s : ByteArray) (w : World) (hs : s.size ≤ 9223372036854775807) (hc : w.cell? ⟨g, 0, none⟩ = some (.string s)) :
    Calls Try.prog 16 #[.int .i64 4, .int .u8 45, .pointer (some ⟨g, 0, none⟩)] w fun e w' => e = .returned (.bool (digThen s 4 45)) ∧ w' = w := then_any g 4 45 s w hs (by omega) hc
theorem then_2 (g : Nat) (s : ByteArray) (w : World) (hs : s.size ≤ 9223372036854775807) (hc : w.cell? ⟨g, 0, none⟩ = some (.string s)) :
    Calls Try.prog 16 #[.int .i64 2, .int .u8 58, .pointer (some ⟨g, 0, none⟩)] w fun e w' => e = .returned (.bool (digThen s 2 58)) ∧ w' = w := then_any g 2 58 s w hs (by omega) hc

set_option maxHeartbeats 800000 in
theorem isDate_any (s : ByteArray) (w : World) (hs : s.size ≤ 9223372036854775807) :
    Calls Try.prog 14 #[.string s] w fun e w' => e = .returned (.bool (digThen s 4 45 || digThen s 2 58)) ∧ Grown w w' := by
  have hc : (w.alloc (.cells #[.string s] 9)).cell? ⟨w.heap.size, 0, none⟩ = some (.string s) := by simp
  cases h4 : digThen s 4 45
  · go_enter Try.func14, Try.ntmps14
    go_wp2_with fail
    refine (then_4 w.heap.size s _ hs (by exact hc)).mono ?_
    rintro e w1 ⟨rfl, hw1⟩
    subst hw1
    rw [h4]
    go_wp2_with fail
    refine (then_2 w.heap.size s _ hs (by exact hc)).mono ?_
    rintro e w2 ⟨rfl, hw2⟩
    subst hw2
    go_wp2_with fail
    go_ret
    exact ⟨rfl, by repeat (first | exact Grown.refl _ | apply Grown.drew | apply Grown.alloc)⟩
  · go_enter Try.func14, Try.ntmps14
    go_wp2_with fail
    refine (then_4 w.heap.size s _ hs (by exact hc)).mono ?_
    rintro e w1 ⟨rfl, hw1⟩
    subst hw1
    rw [h4]
    go_wp2_with fail
    go_ret
    exact ⟨rfl, by repeat (first | exact Grown.refl _ | apply Grown.drew | apply Grown.alloc)⟩

set_option maxHeartbeats 400000 in
theorem zzDate_any (s : ByteArray) (w : World) (hs : s.size ≤ 9223372036854775807) :
    Calls Try.prog 10 #[.string s] w fun e w' => e = .returned (.bool (digThen s 4 45 || digThen s 2 58)) ∧ Grown w w' := by
  go_enter Try.func10, Try.ntmps10
  go_wp2_with fail
  refine (isDate_any s _ hs).mono ?_
  rintro e w' ⟨rfl, hg⟩
  go_wp2_with fail
  go_ret
  exact ⟨rfl, hg⟩

set_option maxHeartbeats 400000 in
theorem fits8 (s : ByteArray) (w : World) (h : s.size ≤ 1048576) : Calls Try.prog 8 #[.string s] w fun e w' => e = .returned (.bool true) ∧ w' = w := by
  go_enter Try.func8, Try.ntmps8
  go_wp2
  go_ret
  exact ⟨rfl, rfl⟩
set_option maxHeartbeats 400000 in
theorem fits8_no (s : ByteArray) (w : World) (h : 1048576 < s.size) : Calls Try.prog 8 #[.string s] w fun e w' => e = .returned (.bool false) ∧ w' = w := by
  go_enter Try.func8, Try.ntmps8
  go_wp2
  go_ret
  exact ⟨rfl, rfl⟩

set_option maxHeartbeats 800000 in
theorem lawDate (s : ByteArray) (w : World) (hs : s.size ≤ 9223372036854775807) :
    Calls Try.prog 3 #[.string s] w fun e w' => e = .returned (.bool true) ∧ Grown w w' := by
  by_cases h1 : 1048576 < s.size
  · go_enter Try.func3, Try.ntmps3
    go_wp2_with fail
    refine (fits8_no s _ h1).mono ?_
    rintro e w' ⟨rfl, rfl⟩
    go_wp2
    go_ret
    exact ⟨rfl, Grown.refl _⟩
  have h1' : s.size ≤ 1048576 := by omega
  go_enter Try.func3, Try.ntmps3
  go_wp2_with fail
  refine (fits8 s _ h1').mono ?_
  rintro e w' ⟨rfl, rfl⟩
  go_wp2_with fail
  refine (run_any s _ hs).mono ?_
  rintro e w' ⟨d, rfl, rfl, hr⟩
  have e4 := digThen_run (n := 4) (sep := 45) hr rfl
  have e2 := digThen_run (n := 2) (sep := 58) hr rfl
  have hle := hr.le
  clear hr
  by_cases hd : d < s.size
  case neg =>
    rw [decide_eq_false hd, Bool.false_and] at e4 e2
    have E4 : Hid _ := e4
    have E2 : Hid _ := e2
    clear e4 e2
    have hd' : ¬ (d : Int) < (s.size : Int) := by omega
    go_wp2_with fail
    refine (zzDate_any s _ hs).mono ?_
    rintro e w' ⟨rfl, hg⟩
    rw [E4.out, E2.out]
    go_wp2_with fail
    go_ret
    exact ⟨rfl, hg⟩
  have hz := zb_at hd
  rw [decide_eq_true hd, Bool.true_and] at e4 e2
  by_cases d4 : d = 4
  · have D4 : Hid (d = 4) := d4
    rw [decide_eq_false (by omega : ¬ d = 2), Bool.false_and] at e2
    rw [decide_eq_true d4, Bool.true_and] at e4
    have b4 : ((d : Int) == 4) = true := by simp; omega
    have b2 : ((d : Int) == 2) = false := by simp; omega
    have E4 : Hid _ := e4
    have E2 : Hid _ := e2
    clear d4 e4 e2
    generalize zb s d = x at *
    cases hx : (x == 45)
    all_goals
      rw [hx] at E4
      go_wp2_with fail
      refine (zzDate_any s _ hs).mono ?_
      rintro e w' ⟨rfl, hg⟩
      rw [E4.out, E2.out]
      go_wp2_with fail
      go_ret
      exact ⟨rfl, hg⟩
  rw [decide_eq_false d4, Bool.false_and] at e4
  have b4 : ((d : Int) == 4) = false := by simp; omega
  by_cases d2 : d = 2
  · rw [decide_eq_true d2, Bool.true_and] at e2
    have b2 : ((d : Int) == 2) = true := by simp; omega
    have E4 : Hid _ := e4
    have E2 : Hid _ := e2
    clear d2 d4 e4 e2
    generalize zb s d = x at *
    cases hx : (x == 58)
    all_goals
      rw [hx] at E2
      go_wp2_with fail
      refine (zzDate_any s _ hs).mono ?_
      rintro e w' ⟨rfl, hg⟩
      rw [E4.out, E2.out]
      go_wp2_with fail
      go_ret
      exact ⟨rfl, hg⟩
  · rw [decide_eq_false d2, Bool.false_and] at e2
    have b2 : ((d : Int) == 2) = false := by simp; omega
    have E4 : Hid _ := e4
    have E2 : Hid _ := e2
    clear d2 d4 e4 e2
    generalize zb s d = x at *
    go_wp2_with fail
    refine (zzDate_any s _ hs).mono ?_
    rintro e w' ⟨rfl, hg⟩
    rw [E4.out, E2.out]
    go_wp2_with fail
    go_ret
    exact ⟨rfl, hg⟩
end Go.Proofs.Qxb6600351a
