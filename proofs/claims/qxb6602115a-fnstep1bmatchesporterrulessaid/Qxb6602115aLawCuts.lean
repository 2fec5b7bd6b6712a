import Derived.Test.Qxb6602115aStepD
import Derived.Test.Qxb6602115aPlainC
namespace Go.Proofs.Qxb6602115a
open Go.RowKit
open Pl

set_option maxHeartbeats 400000 in
theorem fits16 (a : Option Addr) (n c : Nat) (w : World) (h : n ≤ 1048576) :
    Calls Try.prog 16 #[.slice a n c] w fun e w' => e = .returned (.bool true) ∧ w' = w := by
  go_enter Try.func16, Try.ntmps16
  go_wp2
  go_ret
  exact ⟨rfl, rfl⟩

set_option maxHeartbeats 400000 in
theorem fits16_no (a : Option Addr) (n c : Nat) (w : World) (h : 1048576 < n) :
    Calls Try.prog 16 #[.slice a n c] w fun e w' => e = .returned (.bool false) ∧ w' = w := by
  go_enter Try.func16, Try.ntmps16
  go_wp2
  go_ret
  exact ⟨rfl, rfl⟩

theorem below_quiet {B : Nat} {w w1 w2 : World} (h : Below B w w1) (hq : ∃ m, w2 = w1.drewN m) : Below B w w2 := by
  obtain ⟨m, rfl⟩ := hq
  exact ⟨h.os, h.tape, h.output, h.size, h.block⟩

/-- The law's end: true, and nothing that was there has turned. -/
def Stands (w : World) (e : Ending) (w' : World) : Prop := e = .returned (.bool true) ∧ Below w.heap.size w w'

set_option maxHeartbeats 1000000 in
theorem lawCuts_empty (a : Option Addr) (c : Nat) (w : World) (hnil : a = none → c = 0) :
    Calls Try.prog 4 #[.slice a 0 c] w fun e w' => Stands w e w' := by
  go_enter Try.func4, Try.ntmps4
  go_wp2_with fail
  refine (fits16 _ _ _ _ (by omega)).mono ?_
  rintro e w' ⟨rfl, rfl⟩
  go_wp2_with fail
  refine (clone_any a 0 0 0 c (fun _ => 0) _ (by omega) (fun h => ⟨rfl, hnil h⟩) (fun h => absurd h (by omega)) (fun k h => absurd h (by omega))).mono ?_
  rintro e w1 ⟨a1, g1, rfl, _, hg1, _, hb1⟩
  go_wp2_with fail
  refine (clone_any a1 0 0 0 0 (fun _ => 0) _ (by omega) (fun _ => ⟨rfl, rfl⟩) (fun h => absurd h (by omega)) (fun k h => absurd h (by omega))).mono ?_
  rintro e w2 ⟨a2, g2, rfl, _, hg2, _, hb2⟩
  have hB := hb1.trans (hb2.mono hb1.size)
  go_wp2_with fail
  refine (zzStep1b_empty a1 0 _).mono ?_
  rintro e w3 ⟨rfl, hq⟩
  replace hB := below_quiet hB hq
  clear hb1 hb2 hq
  go_wp2
  go_loop [7] (fun i => i = .int .i64 0) (fun _ => 0)
  case atStart => rfl
  case round =>
    subst hrel
    go_wp2
    go_big_quiet (fail)
    go_wp2
    go_ret
    exact ⟨rfl, below_quiet hB ⟨_, rfl⟩⟩

set_option maxHeartbeats 2000000 in
theorem lawCuts_word (b off n c : Nat) (z : Nat → Int) (w : World) (h0 : 0 < n) (hn : n ≤ 65536) (hz : ∀ k, k < n → 0 ≤ z k ∧ z k ≤ 255)
    (hc : ∀ k, k < n → w.cell? ⟨b, off + k, none⟩ = some (.int .u8 (z k))) :
    Calls Try.prog 4 #[.slice (some ⟨b, off, none⟩) n c] w fun e w' => Stands w e w' := by
  go_enter Try.func4, Try.ntmps4
  go_wp2_with fail
  refine (fits16 _ _ _ _ (by omega)).mono ?_
  rintro e w' ⟨rfl, rfl⟩
  go_wp2_with fail
  refine (clone_any _ b off n c z _ (by omega) (fun h => by cases h) (fun _ => rfl) hc).mono ?_
  rintro e w1 ⟨a1, g1, rfl, ha1, hg1, hr1, hb1⟩
  obtain rfl := ha1 h0
  replace hr1 := hr1 h0
  clear hc
  go_wp2_with fail
  refine (clone_any _ g1 0 n n z _ (by omega) (fun h => by cases h) (fun _ => rfl) ((Word.refl hr1).cells (Nat.le_refl _))).mono ?_
  rintro e w2 ⟨a2, g2, rfl, ha2, hg2, hr2, hb2⟩
  obtain rfl := ha2 h0
  replace hr2 := hr2 h0
  have hne : g2 ≠ g1 := by have := hr1.lt; omega
  replace hr1 := below_row hb2 hr1 hr1.lt
  have hB := hb1.trans (hb2.mono hb1.size)
  clear hb1 hb2 ha1 ha2
  go_wp2_with fail
  refine (zzStep1b_word g1 n z _ (by omega) hz hr1).mono ?_
  rintro e w3 ⟨rfl, hW⟩
  have hr3 := hW.row
  have hr4 : w3.rowIs g2 5 n (fun k => .int .u8 (z k)) := hr2.of_block (hW.grown.block g2 hr2.lt (fun e => hne (Option.some.inj e)))
  replace hB := hB.grown hW.grown hB.size (fun k hk => by obtain rfl := Option.some.inj hk; exact hg1)
  have HC := step_cuts (z := z) h0
  clear hr1 hr2 hW
  obtain ⟨r, hr⟩ : ∃ r, stepB z n = r := ⟨_, rfl⟩
  rw [hr] at HC hr3 ⊢
  clear hr
  obtain ⟨k, v⟩ := r
  have hk0 := HC.pos
  have hkn := HC.le
  have hk4 := HC.four
  have hlast := HC.last
  have CUT : Hid (∀ j, j + 1 < k → laid z (k, v) j = z j) := fun j hj => laid_before hj
  have LAST : Hid _ := hlast
  clear HC hlast
  simp only at hk0 hkn hk4 LAST hr3 ⊢
  have e1 : ((k : Int) == 0) = false := by simp; omega
  have e2 : ((n : Int) == 0) = false := by simp; omega
  go_wp2_with fail
  go_loopw [7] (fun i wr => ∃ j : Nat, j + 1 ≤ k ∧ i = .int .i64 j ∧ ∃ m, wr = w3.drewN m) (fun i _ => k - (intOf i).toNat)
  case atStart => exact ⟨0, by omega, rfl, 0, rfl⟩
  case round =>
    obtain ⟨j, hj, rfl, hq⟩ := hrel
    replace hB := below_quiet hB hq
    have hra : wr.rowIs g1 5 n (fun i => .int .u8 (laid z (k, v) i)) := by obtain ⟨m, rfl⟩ := hq; exact hr3
    have hrb : wr.rowIs g2 5 n (fun i => .int .u8 (z i)) := by obtain ⟨m, rfl⟩ := hq; exact hr4
    by_cases hlt : j + 1 < k
    · have c1 := hra.cell (i := j) (by omega)
      have c2 := hrb.cell (i := j) (by omega)
      rw [CUT.out j hlt] at c1
      clear hra hrb hr3 hr4
      go_wp2_with fail
      go_big_quiet (fail)
      go_wp2_with fail
      go_roundw
      case rel => exact ⟨j + 1, by omega, by go_num, quiet_trans hq ⟨_, rfl⟩⟩
      case measure => simp [intOf]; omega
    · obtain rfl : k = j + 1 := by omega
      have c1 := hra.cell (i := j) (by omega)
      have c2 := hrb.cell (i := j) (by omega)
      have hl : laid z (j + 1, v) j = z j ∨ laid z (j + 1, v) j = 101 := LAST.out
      clear hra hrb hr3 hr4 LAST CUT
      generalize laid z (j + 1, v) j = x at c1 hl
      have hj1 : (0 : Int) < (j : Int) + 1 := by omega
      cases hx : (x != z j)
      · go_wp2_with fail
        go_big_quiet (fail)
        go_wp2_with fail
        go_ret
        exact ⟨rfl, below_quiet hB ⟨_, rfl⟩⟩
      · have h101 : x = 101 := by
          rcases hl with h | h
          · rw [h] at hx; simp at hx
          · exact h
        subst h101
        clear hl
        go_wp2_with fail
        go_big_quiet (fail)
        go_wp2_with fail
        go_ret
        exact ⟨rfl, below_quiet hB ⟨_, rfl⟩⟩

set_option maxHeartbeats 400000 in
theorem lawCuts (a : Option Addr) (b off n c : Nat) (z : Nat → Int) (w : World) (hnil : a = none → n = 0 ∧ c = 0) (ha : 0 < n → a = some ⟨b, off, none⟩)
    (hz : ∀ k, k < n → 0 ≤ z k ∧ z k ≤ 255) (hc : ∀ k, k < n → w.cell? ⟨b, off + k, none⟩ = some (.int .u8 (z k))) :
    Calls Try.prog 4 #[.slice a n c] w fun e w' => Stands w e w' := by
  by_cases h1 : 1048576 < n
  · go_enter Try.func4, Try.ntmps4
    go_wp2_with fail
    refine (fits16_no _ _ _ _ h1).mono ?_
    rintro e w' ⟨rfl, rfl⟩
    go_wp2
    go_ret
    exact ⟨rfl, Below.refl _ _⟩
  have h1' : n ≤ 1048576 := by omega
  by_cases h2 : 65536 < n
  · go_enter Try.func4, Try.ntmps4
    go_wp2_with fail
    refine (fits16 _ _ _ _ h1').mono ?_
    rintro e w' ⟨rfl, rfl⟩
    go_wp2
    go_ret
    exact ⟨rfl, Below.refl _ _⟩
  by_cases h0 : n = 0
  · subst h0
    exact lawCuts_empty a c w (fun h => (hnil h).2)
  · obtain rfl := ha (by omega)
    exact lawCuts_word b off n c z w (by omega) (by omega) hz hc

end Go.Proofs.Qxb6602115a
