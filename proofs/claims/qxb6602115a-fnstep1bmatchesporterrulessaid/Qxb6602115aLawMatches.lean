import Derived.Test.Qxb6602115aModelF
import Derived.Deep.RegionWith
import Derived.Test.Qxb6602115aLawCuts
import Derived.Test.Qxb6602115aClasses
namespace Go.Proofs.Qxb6602115a
open Go.RowKit
open Pl

set_option maxHeartbeats 1000000 in
theorem lawMatches_empty (a : Option Addr) (c : Nat) (w : World) (hnil : a = none → c = 0) :
    Calls Try.prog 3 #[.slice a 0 c] w fun e w' => Stands w e w' := by
  go_enter Try.func3, Try.ntmps3
  go_wp2_with fail
  refine (fits10 _ _ _ _ (by omega)).mono ?_
  rintro e w' ⟨rfl, rfl⟩
  go_wp2_with fail
  refine (clone_any a 0 0 0 c (fun _ => 0) _ (by omega) (fun h => ⟨rfl, hnil h⟩) (fun h => absurd h (by omega)) (fun k h => absurd h (by omega))).mono ?_
  rintro e w1 ⟨a1, g1, rfl, _, hg1, _, hb1⟩
  go_wp2_with fail
  refine (clone_any a1 0 0 0 0 (fun _ => 0) _ (by omega) (fun _ => ⟨rfl, rfl⟩) (fun h => absurd h (by omega)) (fun k h => absurd h (by omega))).mono ?_
  rintro e w2 ⟨a2, g2, rfl, _, hg2, _, hb2⟩
  have hB := hb1.trans (hb2.mono hb1.size)
  clear hb1 hb2
  go_wp2_with fail
  refine (classes_any a2 0 0 0 0 (fun _ => 0) _ (by omega) (fun h => absurd h (by omega)) (fun k h => absurd h (by omega))).mono ?_
  rintro e w3 ⟨a3, g3, rfl, _, hg3, _, hb3⟩
  replace hB := hB.trans (hb3.mono hB.size)
  clear hb3
  go_wp2_with fail
  refine (model_empty a2 a3 (fun _ => 0) _).mono ?_
  rintro e w4 ⟨a4, g4, rfl, _, hg4, _, hb4⟩
  replace hB := hB.trans (hb4.mono hB.size)
  clear hb4
  go_wp2_with fail
  refine (zzStep1b_empty a1 0 _).mono ?_
  rintro e w5 ⟨rfl, hq⟩
  replace hB := below_quiet hB hq
  clear hq
  go_wp2_with fail
  refine (zzBytesEq a1 a4 0 0 0 0 0 0 0 0 (fun _ => 0) (fun _ => 0) _ (by omega) rfl (fun h => absurd h (by omega)) (fun h => absurd h (by omega)) (fun k h => absurd h (by omega)) (fun k h => absurd h (by omega)) (fun _ _ => rfl)).mono ?_
  rintro e w6 ⟨rfl, hq⟩
  replace hB := below_quiet hB hq
  clear hq
  cases a1 <;> cases a2
  all_goals
    go_wp2_with fail
    go_big_quiet (first | (go_at_call 15; refine Calls.quiet_of (zzBytesEq _ _ 0 0 0 0 0 0 _ _ (fun _ => 0) (fun _ => 0) _ (by omega) rfl (fun h => absurd h (by omega)) (fun h => absurd h (by omega)) (fun k h => absurd h (by omega)) (fun k h => absurd h (by omega)) (fun _ _ => rfl))))
    go_wp2_with fail
    go_ret
    exact ⟨rfl, below_quiet hB ⟨_, rfl⟩⟩

set_option maxHeartbeats 2000000 in
theorem lawMatches_word (b off n c : Nat) (z : Nat → Int) (w : World) (h0 : 0 < n) (hn : n ≤ 65536) (hz : ∀ k, k < n → 0 ≤ z k ∧ z k ≤ 255)
    (hc : ∀ k, k < n → w.cell? ⟨b, off + k, none⟩ = some (.int .u8 (z k))) :
    Calls Try.prog 3 #[.slice (some ⟨b, off, none⟩) n c] w fun e w' => Stands w e w' := by
  go_enter Try.func3, Try.ntmps3
  go_wp2_with fail
  refine (fits10 _ _ _ _ (by omega)).mono ?_
  rintro e w' ⟨rfl, rfl⟩
  go_wp2_with fail
  refine (clone_any _ b off n c z _ (by omega) (fun h => by cases h) (fun _ => rfl) hc).mono ?_
  rintro e w1 ⟨a1, g1, rfl, ha1, hg1, hr1, hb1⟩
  obtain rfl := ha1 h0
  replace hr1 := hr1 h0
  clear hc
  go_wp2_with fail
  refine (clone_any _ g1 0 n n z _ (by omega) (fun h => by cases h) (fun _ => rfl) ((Word.refl hr1).cells (Nat.le_refl _))).mono ?_
  rintro e w2 ⟨a2, g2, rfl, ha2, hg2, hr2, hb2⟩
  obtain rfl := ha2 h0
  replace hr2 := hr2 h0
  have hne : g2 ≠ g1 := by have := hr1.lt; omega
  replace hr1 := below_row hb2 hr1 hr1.lt
  have hB := hb1.trans (hb2.mono hb1.size)
  clear hb1 hb2 ha1 ha2
  go_wp2_with fail
  refine (classes_any _ g2 0 n n z _ (by omega) (fun _ => rfl) ((Word.refl hr2).cells (Nat.le_refl _))).mono ?_
  rintro e w3 ⟨a3, g3, rfl, ha3, hg3, hr3, hb3⟩
  obtain rfl := ha3 h0
  replace hr3 := hr3 h0
  replace hr1 := below_row hb3 hr1 hr1.lt
  replace hr2 := below_row hb3 hr2 hr2.lt
  replace hB := hB.trans (hb3.mono hB.size)
  clear hb3 ha3
  have HC := step_cuts (z := z) h0
  go_wp2_with fail
  refine (model_word g2 g3 n z _ h0 (by omega) ((Word.refl hr2).cells (Nat.le_refl _)) (fun k hk => by rw [Nat.zero_add]; exact hr3.cell hk)).mono ?_
  rintro e w4 ⟨a4, g4, rfl, ha4, hg4, hr4, hb4⟩
  obtain rfl := ha4 HC.pos
  replace hr4 := hr4 HC.pos
  have hne4 : g4 ≠ g1 := by have := hr1.lt; omega
  replace hr1 := below_row hb4 hr1 hr1.lt
  replace hr2 := below_row hb4 hr2 hr2.lt
  replace hB := hB.trans (hb4.mono hB.size)
  clear hb4 ha4 hr3
  go_wp2_with fail
  refine (zzStep1b_word g1 n z _ (by omega) hz hr1).mono ?_
  rintro e w5 ⟨rfl, hW⟩
  have r1 := hW.row
  have r2 : w5.rowIs g2 5 n (fun k => .int .u8 (z k)) := hr2.of_block (hW.grown.block g2 hr2.lt (fun e => hne (Option.some.inj e)))
  have r4 : w5.rowIs g4 5 (stepB z n).1 (fun k => .int .u8 (laid z (stepB z n) k)) := hr4.of_block (hW.grown.block g4 hr4.lt (fun e => hne4 (Option.some.inj e)))
  replace hB := hB.grown hW.grown hB.size (fun k hk => by obtain rfl := Option.some.inj hk; omega)
  clear hr1 hr2 hr4 hW
  have BEY : Hid (∀ j, (stepB z n).1 ≤ j → laid z (stepB z n) j = z j) := fun j hj => laid_beyond hj
  have hk0 := HC.pos
  have hkn := HC.le
  clear HC hz
  generalize laid z (stepB z n) = y at *
  generalize (stepB z n).1 = k at *
  have HC1 : Hid (∀ j, j < n → w5.cell? ⟨g1, 0 + j, none⟩ = some (.int .u8 (y j))) := fun j hj => by rw [Nat.zero_add]; exact r1.cell hj
  have HC2 : Hid (∀ j, j < n → w5.cell? ⟨g2, 0 + j, none⟩ = some (.int .u8 (z j))) := fun j hj => by rw [Nat.zero_add]; exact r2.cell hj
  have HC4 : Hid (∀ j, j < k → w5.cell? ⟨g4, 0 + j, none⟩ = some (.int .u8 (y j))) := fun j hj => by rw [Nat.zero_add]; exact r4.cell hj
  clear r1 r2 r4
  go_wp2_with fail
  refine (zzBytesEq _ _ g1 0 g4 0 k k n k y y _ (by omega) rfl (fun _ => rfl) (fun _ => rfl) (fun j hj => HC1.out j (by omega)) HC4.out (fun _ _ => rfl)).mono ?_
  rintro e w6 ⟨rfl, hq⟩
  replace hB := below_quiet hB hq
  replace HC1 : Hid (∀ j, j < n → w6.cell? ⟨g1, 0 + j, none⟩ = some (.int .u8 (y j))) := quiet_cells hq HC1.out
  replace HC2 : Hid (∀ j, j < n → w6.cell? ⟨g2, 0 + j, none⟩ = some (.int .u8 (z j))) := quiet_cells hq HC2.out
  replace HC4 : Hid (∀ j, j < k → w6.cell? ⟨g4, 0 + j, none⟩ = some (.int .u8 (y j))) := quiet_cells hq HC4.out
  clear hq
  have t1 : decide ((n : Int) < (k : Int)) = false := decide_eq_false (by omega)
  have t2 : ((n : Int) != (n : Int)) = false := by simp
  have b0 : (0 : Int) ≤ (k : Int) := by omega
  have b1 : (k : Int) ≤ (n : Int) := by omega
  have HQ1 : Hid (∀ c d, Calls Try.prog 15 #[.slice (some ⟨g1, 0, none⟩) k c, .slice (some ⟨g4, 0, none⟩) k k] (w6.drewN d) fun e w'' => e = .returned (.bool true) ∧ ∃ m, w'' = w6.drewN m) := fun c d =>
    Calls.quiet_of (zzBytesEq _ _ g1 0 g4 0 k k c k y y _ (by omega) rfl (fun _ => rfl) (fun _ => rfl) (fun j hj => HC1.out j (by omega)) HC4.out (fun _ _ => rfl))
  have HQ2 : Hid (∀ d, Calls Try.prog 15 #[.slice (some ⟨g1, k, none⟩) (n - k) (n - k), .slice (some ⟨g2, k, none⟩) (n - k) (n - k)] (w6.drewN d) fun e w'' => e = .returned (.bool true) ∧ ∃ m, w'' = w6.drewN m) := fun d =>
    Calls.quiet_of (zzBytesEq _ _ g1 k g2 k (n - k) (n - k) (n - k) (n - k) (fun j => z (k + j)) (fun j => z (k + j)) _ (by omega) rfl (fun _ => rfl) (fun _ => rfl) (fun j hj => by have := HC1.out (k + j) (by omega); rw [BEY.out (k + j) (by omega), Nat.zero_add] at this; exact this) (fun j hj => by have := HC2.out (k + j) (by omega); rw [Nat.zero_add] at this; exact this) (fun _ _ => rfl))
  have HQ3 : Hid (∀ d, Calls Try.prog 15 #[.slice (some ⟨g1, 0, none⟩) 0 0, .slice (some ⟨g2, 0, none⟩) 0 0] (w6.drewN d) fun e w'' => e = .returned (.bool true) ∧ ∃ m, w'' = w6.drewN m) := fun d =>
    Calls.quiet_of (zzBytesEq _ _ g1 0 g2 0 0 0 0 0 z z _ (by omega) rfl (fun _ => rfl) (fun _ => rfl) (fun j hj => absurd hj (by omega)) (fun j hj => absurd hj (by omega)) (fun _ _ => rfl))
  clear HC1 HC2 HC4 BEY
  by_cases hkn2 : k = n
  · subst hkn2
    go_wp2_with fail
    go_big_quiet (first | (go_at_call_of 15 (Value.slice (some ⟨g4, 0, none⟩) k k); exact HQ1.out _ _) | (go_at_call 15; exact HQ3.out _))
    go_wp2_with fail
    go_ret
    exact ⟨rfl, below_quiet hB ⟨_, rfl⟩⟩
  · have nk : ¬ n = k := fun h => hkn2 h.symm
    go_wp2_with fail
    go_big_quiet (first | (go_at_call_of 15 (Value.slice (some ⟨g4, 0, none⟩) k k); exact HQ1.out _ _) | (go_at_call 15; exact HQ2.out _))
    go_wp2_with fail
    go_ret
    exact ⟨rfl, below_quiet hB ⟨_, rfl⟩⟩

set_option maxHeartbeats 400000 in
theorem lawMatches (a : Option Addr) (b off n c : Nat) (z : Nat → Int) (w : World) (hnil : a = none → n = 0 ∧ c = 0) (ha : 0 < n → a = some ⟨b, off, none⟩)
    (hz : ∀ k, k < n → 0 ≤ z k ∧ z k ≤ 255) (hc : ∀ k, k < n → w.cell? ⟨b, off + k, none⟩ = some (.int .u8 (z k))) :
    Calls Try.prog 3 #[.slice a n c] w fun e w' => Stands w e w' := by
  by_cases h1 : 1048576 < n
  · go_enter Try.func3, Try.ntmps3
    go_wp2_with fail
    refine (fits10_no _ _ _ _ h1).mono ?_
    rintro e w' ⟨rfl, rfl⟩
    go_wp2
    go_ret
    exact ⟨rfl, Below.refl _ _⟩
  have h1' : n ≤ 1048576 := by omega
  by_cases h2 : 65536 < n
  · go_enter Try.func3, Try.ntmps3
    go_wp2_with fail
    refine (fits10 _ _ _ _ h1').mono ?_
    rintro e w' ⟨rfl, rfl⟩
    go_wp2
    go_ret
    exact ⟨rfl, Below.refl _ _⟩
  by_cases h0 : n = 0
  · subst h0
    exact lawMatches_empty a c w (fun h => (hnil h).2)
  · obtain rfl := ha (by omega)
    exact lawMatches_word b off n c z w (by omega) (by omega) hz hc

end Go.Proofs.Qxb6602115a
