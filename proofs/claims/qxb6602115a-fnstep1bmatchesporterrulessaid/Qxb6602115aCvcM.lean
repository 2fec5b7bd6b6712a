import Derived.Test.Qxb6602115aLeaf
namespace Go.Proofs.Qxb6602115a
open Go.RowKit
open Pl

set_option maxHeartbeats 800000 in
theorem zzCVC_any (a a2 : Option Addr) (b off n c g og m c2 : Nat) (i : Int) (k : Nat) (hi : i = k) (z : Nat → Int) (w : World) (hn : n ≤ 9223372036854775807) (hkn : k ≤ n) (hkm : k ≤ m)
    (ha : 0 < n → a = some ⟨b, off, none⟩) (ha2 : 0 < m → a2 = some ⟨g, og, none⟩)
    (hc : ∀ j, j < n → w.cell? ⟨b, off + j, none⟩ = some (.int .u8 (z j)))
    (hg : ∀ j, j < m → w.cell? ⟨g, og + j, none⟩ = some (.bool (st z (j + 1)))) :
    Calls Try.prog 21 #[.slice a n c, .slice a2 m c2, .int .i64 i] w fun e w' => e = .returned (.bool (cvcB z k)) ∧ w' = w := by
  subst hi
  by_cases h1 : k < 2
  · rw [cvcB_small h1]
    go_enter Try.func21, Try.ntmps21
    go_wp2
    go_ret
    exact ⟨rfl, rfl⟩
  obtain rfl := ha (by omega)
  obtain rfl := ha2 (by omega)
  by_cases h2 : k = 2
  · subst h2
    rw [cvcB_two]
    have g0 := hg 0 (by omega)
    have g1 := hg 1 (by omega)
    rw [Nat.add_zero] at g0
    rw [show (0 : Nat) + 1 = 1 from rfl] at g0
    rw [show (1 : Nat) + 1 = 2 from rfl] at g1
    have b0 : (0 : Int) < m := by omega
    have b1 : (1 : Int) < m := by omega
    cases e1 : st z 1 <;> rw [e1] at g0
    all_goals
      go_enter Try.func21, Try.ntmps21
      go_wp2
      go_ret
      exact ⟨rfl, rfl⟩
  obtain ⟨q, rfl⟩ : ∃ q, k = q + 3 := ⟨k - 3, by omega⟩
  have hcell : w.cell? ⟨b, off + (q + 2), none⟩ = some (.int .u8 (z (q + 2))) := hc (q + 2) (by omega)
  have g0 : w.cell? ⟨g, og + q, none⟩ = some (.bool (st z (q + 1))) := hg q (by omega)
  have g1 : w.cell? ⟨g, og + (q + 1), none⟩ = some (.bool (st z (q + 2))) := hg (q + 1) (by omega)
  have g2 : w.cell? ⟨g, og + (q + 2), none⟩ = some (.bool (st z (q + 3))) := hg (q + 2) (by omega)
  have h3 : 3 ≤ q + 3 := by omega
  clear hc hg
  by_cases hw : z (q + 2) = 119
  · rw [cvcB_wxy h3 (.inl hw)]
    rw [hw] at hcell
    go_enter Try.func21, Try.ntmps21
    go_wp2
    go_ret
    exact ⟨rfl, rfl⟩
  by_cases hx : z (q + 2) = 120
  · rw [cvcB_wxy h3 (.inr (.inl hx))]
    rw [hx] at hcell
    go_enter Try.func21, Try.ntmps21
    go_wp2
    go_ret
    exact ⟨rfl, rfl⟩
  by_cases hy : z (q + 2) = 121
  · rw [cvcB_wxy h3 (.inr (.inr hy))]
    rw [hy] at hcell
    go_enter Try.func21, Try.ntmps21
    go_wp2
    go_ret
    exact ⟨rfl, rfl⟩
  rw [cvcB_big h3 hw hx hy]
  have hw' : (z (q + 2) == 119) = false := by simp [hw]
  have hx' : (z (q + 2) == 120) = false := by simp [hx]
  have hy' : (z (q + 2) == 121) = false := by simp [hy]
  show Calls Try.prog 21 _ w fun e w' => e = .returned (.bool (st z (q + 1) && !st z (q + 2) && st z (q + 3))) ∧ w' = w
  clear hw hx hy
  cases e1 : st z (q + 1) <;> rw [e1] at g0
  · go_enter Try.func21, Try.ntmps21
    go_wp2
    go_ret
    exact ⟨rfl, rfl⟩
  cases e2 : st z (q + 2) <;> rw [e2] at g1
  all_goals
    go_enter Try.func21, Try.ntmps21
    go_wp2
    go_ret
    exact ⟨rfl, rfl⟩

end Go.Proofs.Qxb6602115a
