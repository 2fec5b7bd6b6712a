import Derived.Test.Qxb6602115aCvc
import Derived.Test.Qxb6602115aCvcM
import Derived.Test.Qxb6602115aClasses
namespace Go.Proofs.Qxb6602115a
open Go.RowKit
open Pl

set_option maxHeartbeats 400000 in
theorem zzEndsCVC_any (a : Option Addr) (b off n c : Nat) (z : Nat → Int) (w : World) (hn : n ≤ 9223372036854775807) (ha : 0 < n → a = some ⟨b, off, none⟩)
    (hc : ∀ k, k < n → w.cell? ⟨b, off + k, none⟩ = some (.int .u8 (z k))) :
    Calls Try.prog 20 #[.slice a n c] w fun e w' => e = .returned (.bool (cvcB z n)) ∧ w' = w := by
  go_enter Try.func20, Try.ntmps20
  go_wp2_with fail
  refine (endsCVC_any a b off n c z _ hn ha hc).mono ?_
  rintro e w' ⟨rfl, rfl⟩
  go_wp2
  go_ret
  exact ⟨rfl, rfl⟩

set_option maxHeartbeats 400000 in
theorem fits19 (a : Option Addr) (n c : Nat) (w : World) (h : n ≤ 1048576) :
    Calls Try.prog 19 #[.slice a n c] w fun e w' => e = .returned (.bool true) ∧ w' = w := by
  go_enter Try.func19, Try.ntmps19
  go_wp2
  go_ret
  exact ⟨rfl, rfl⟩

set_option maxHeartbeats 400000 in
theorem fits19_no (a : Option Addr) (n c : Nat) (w : World) (h : 1048576 < n) :
    Calls Try.prog 19 #[.slice a n c] w fun e w' => e = .returned (.bool false) ∧ w' = w := by
  go_enter Try.func19, Try.ntmps19
  go_wp2
  go_ret
  exact ⟨rfl, rfl⟩

set_option maxHeartbeats 400000 in
theorem lawCvc (a : Option Addr) (b off n c : Nat) (z : Nat → Int) (w : World) (hnil : a = none → n = 0 ∧ c = 0) (ha : 0 < n → a = some ⟨b, off, none⟩)
    (hc : ∀ k, k < n → w.cell? ⟨b, off + k, none⟩ = some (.int .u8 (z k))) :
    Calls Try.prog 6 #[.slice a n c] w fun e w' => e = .returned (.bool true) ∧ Below w.heap.size w w' := by
  by_cases h1 : 1048576 < n
  · go_enter Try.func6, Try.ntmps6
    go_wp2_with fail
    refine (fits19_no _ _ _ _ h1).mono ?_
    rintro e w' ⟨rfl, rfl⟩
    go_wp2
    go_ret
    exact ⟨rfl, Below.refl _ _⟩
  have h1' : n ≤ 1048576 := by omega
  by_cases h2 : 65536 < n
  · go_enter Try.func6, Try.ntmps6
    go_wp2_with fail
    refine (fits19 _ _ _ _ h1').mono ?_
    rintro e w' ⟨rfl, rfl⟩
    go_wp2
    go_ret
    exact ⟨rfl, Below.refl _ _⟩
  go_enter Try.func6, Try.ntmps6
  go_wp2_with fail
  refine (fits19 _ _ _ _ h1').mono ?_
  rintro e w' ⟨rfl, rfl⟩
  go_wp2_with fail
  refine (clone_any a b off n c z _ h1' hnil ha hc).mono ?_
  rintro e w1 ⟨a', g, rfl, ha', hg, hrow, hbel⟩
  have hc1 : ∀ k, k < n → w1.cell? ⟨g, 0 + k, none⟩ = some (.int .u8 (z k)) := fun k hk => by rw [Nat.zero_add]; exact (hrow (by omega)).cell hk
  clear hc hnil ha
  go_wp2_with fail
  refine (zzEndsCVC_any a' g 0 n n z _ (by omega) ha' hc1).mono ?_
  rintro e w2 ⟨rfl, rfl⟩
  go_wp2_with fail
  refine (classes_any a' g 0 n n z _ h1' ha' hc1).mono ?_
  rintro e w3 ⟨a2, g2, rfl, ha2, hg2, hrow2, hbel2⟩
  have hc3 : ∀ k, k < n → w3.cell? ⟨g, 0 + k, none⟩ = some (.int .u8 (z k)) := fun k hk => (hbel2.cell (p := ⟨g, 0 + k, none⟩) (World.block_lt_of_cell? _ _ (hc1 k hk))).trans (hc1 k hk)
  have hg3 : ∀ k, k < n → w3.cell? ⟨g2, 0 + k, none⟩ = some (.bool (st z (k + 1))) := fun k hk => by rw [Nat.zero_add]; exact (hrow2 (by omega)).cell hk
  have hfin := hbel.trans (hbel2.mono hbel.size)
  clear hc1 hrow hrow2 hbel hbel2
  go_wp2_with fail
  refine (zzCVC_any a' a2 g 0 n n g2 0 n n n n rfl z _ (by omega) (Nat.le_refl _) (Nat.le_refl _) ha' ha2 hc3 hg3).mono ?_
  rintro e w4 ⟨rfl, rfl⟩
  go_wp2
  go_ret
  exact ⟨by simp, hfin⟩
end Go.Proofs.Qxb6602115a
