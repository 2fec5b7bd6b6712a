import Derived.Test.Qxb6602115aLeaf
namespace Go.Proofs.Qxb6602115a
open Go.RowKit
open Pl

set_option maxHeartbeats 400000 in
theorem endsCVC_small (a : Option Addr) (n c : Nat) (z : Nat → Int) (w : World) (hn : n < 2) :
    Calls Try.prog 40 #[.slice a n c] w fun e w' => e = .returned (.bool (cvcB z n)) ∧ w' = w := by
  rw [cvcB_small hn]
  go_enter Try.func40, Try.ntmps40
  go_wp2
  go_ret
  exact ⟨rfl, rfl⟩

set_option maxHeartbeats 400000 in
theorem endsCVC_two (b off c : Nat) (z : Nat → Int) (w : World)
    (hc : ∀ k, k < 2 → w.cell? ⟨b, off + k, none⟩ = some (.int .u8 (z k))) :
    Calls Try.prog 40 #[.slice (some ⟨b, off, none⟩) 2 c] w fun e w' => e = .returned (.bool (cvcB z 2)) ∧ w' = w := by
  rw [cvcB_two]
  cases h1 : st z 1
  all_goals
    go_enter Try.func40, Try.ntmps40
    go_wp2_with fail
    refine (isConsonant_any b off 2 c 0 z _ (by omega) (by omega) (by omega) hc).mono ?_
    rintro e w' ⟨rfl, rfl⟩
    rw [show st z ((0 : Int).toNat + 1) = _ from h1]
    go_wp2_with fail
  · refine (isConsonant_any b off 2 c 1 z _ (by omega) (by omega) (by omega) hc).mono ?_
    rintro e w' ⟨rfl, rfl⟩
    go_wp2
    go_ret
    exact ⟨rfl, rfl⟩
  · go_ret
    exact ⟨rfl, rfl⟩

set_option maxHeartbeats 800000 in
theorem endsCVC_big (b off n c : Nat) (z : Nat → Int) (w : World) (h3 : 3 ≤ n) (hn : n ≤ 9223372036854775807)
    (hc : ∀ k, k < n → w.cell? ⟨b, off + k, none⟩ = some (.int .u8 (z k))) :
    Calls Try.prog 40 #[.slice (some ⟨b, off, none⟩) n c] w fun e w' => e = .returned (.bool (cvcB z n)) ∧ w' = w := by
  obtain ⟨m, rfl⟩ : ∃ m, n = m + 3 := ⟨n - 3, by omega⟩
  have hcell : w.cell? ⟨b, off + (m + 2), none⟩ = some (.int .u8 (z (m + 2))) := hc (m + 2) (by omega)
  by_cases hw : z (m + 2) = 119
  · rw [cvcB_wxy h3 (.inl hw)]
    rw [hw] at hcell
    go_enter Try.func40, Try.ntmps40
    go_wp2_with fail
    go_ret
    exact ⟨rfl, rfl⟩
  by_cases hx : z (m + 2) = 120
  · rw [cvcB_wxy h3 (.inr (.inl hx))]
    rw [hx] at hcell
    go_enter Try.func40, Try.ntmps40
    go_wp2_with fail
    go_ret
    exact ⟨rfl, rfl⟩
  by_cases hy : z (m + 2) = 121
  · rw [cvcB_wxy h3 (.inr (.inr hy))]
    rw [hy] at hcell
    go_enter Try.func40, Try.ntmps40
    go_wp2_with fail
    go_ret
    exact ⟨rfl, rfl⟩
  rw [cvcB_big h3 hw hx hy]
  have hw' : (z (m + 2) == 119) = false := by simp [hw]
  have hx' : (z (m + 2) == 120) = false := by simp [hx]
  have hy' : (z (m + 2) == 121) = false := by simp [hy]
  show Calls Try.prog 40 #[.slice (some ⟨b, off, none⟩) (m + 3) c] w fun e w' => e = .returned (.bool (st z (m + 1) && !st z (m + 2) && st z (m + 3))) ∧ w' = w
  have H1 : ∀ i : Int, i = m → st z (i.toNat + 1) = st z (m + 1) := fun i h => by rw [h, Int.toNat_natCast]
  have H2 : ∀ i : Int, i = m + 1 → st z (i.toNat + 1) = st z (m + 2) := fun i h => by rw [h]; rfl
  have H3 : ∀ i : Int, i = m + 2 → st z (i.toNat + 1) = st z (m + 3) := fun i h => by rw [h]; rfl
  have G1 : Hid _ := H1
  have G2 : Hid _ := H2
  have G3 : Hid _ := H3
  clear H1 H2 H3 hw hx hy
  cases h1 : st z (m + 1)
  · go_enter Try.func40, Try.ntmps40
    go_wp2_with fail
    refine (isConsonant_any b off (m + 3) c _ z _ hn (by omega) (by omega) hc).mono ?_
    rintro e w' ⟨rfl, rfl⟩
    rw [G1.out _ (by omega), h1]
    go_wp2_with fail
    go_ret
    exact ⟨rfl, rfl⟩
  cases h2 : st z (m + 2)
  · go_enter Try.func40, Try.ntmps40
    go_wp2_with fail
    refine (isConsonant_any b off (m + 3) c _ z _ hn (by omega) (by omega) hc).mono ?_
    rintro e w' ⟨rfl, rfl⟩
    rw [G1.out _ (by omega), h1]
    go_wp2_with fail
    refine (isConsonant_any b off (m + 3) c _ z _ hn (by omega) (by omega) hc).mono ?_
    rintro e w' ⟨rfl, rfl⟩
    rw [G2.out _ (by omega), h2]
    go_wp2_with fail
    refine (isConsonant_any b off (m + 3) c _ z _ hn (by omega) (by omega) hc).mono ?_
    rintro e w' ⟨rfl, rfl⟩
    rw [G3.out _ (by omega)]
    go_wp2_with fail
    go_ret
    exact ⟨rfl, rfl⟩
  · go_enter Try.func40, Try.ntmps40
    go_wp2_with fail
    refine (isConsonant_any b off (m + 3) c _ z _ hn (by omega) (by omega) hc).mono ?_
    rintro e w' ⟨rfl, rfl⟩
    rw [G1.out _ (by omega), h1]
    go_wp2_with fail
    refine (isConsonant_any b off (m + 3) c _ z _ hn (by omega) (by omega) hc).mono ?_
    rintro e w' ⟨rfl, rfl⟩
    rw [G2.out _ (by omega), h2]
    go_wp2_with fail
    go_ret
    exact ⟨rfl, rfl⟩

theorem endsCVC_any (a : Option Addr) (b off n c : Nat) (z : Nat → Int) (w : World) (hn : n ≤ 9223372036854775807) (ha : 0 < n → a = some ⟨b, off, none⟩)
    (hc : ∀ k, k < n → w.cell? ⟨b, off + k, none⟩ = some (.int .u8 (z k))) :
    Calls Try.prog 40 #[.slice a n c] w fun e w' => e = .returned (.bool (cvcB z n)) ∧ w' = w := by
  by_cases h1 : n < 2
  · exact endsCVC_small a n c z w h1
  obtain rfl := ha (by omega)
  by_cases h2 : n = 2
  · subst h2; exact endsCVC_two b off c z w hc
  · exact endsCVC_big b off n c z w (by omega) hn hc

end Go.Proofs.Qxb6602115a
