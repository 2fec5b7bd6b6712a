import Derived.Test.Qxb6602115aProg
import Derived.Test.Qxb6602115aPlainG
import Derived.Test.Qxb6602115aMem
import Derived.WalkKit
import Derived.WalkSpells
import Derived.Deep.QuietTactic
import Derived.BigQuiet
import Derived.Deep.RegionHeld3
import Derived.Deep.DrawnRows
namespace Go.Proofs.Qxb6602115a
open Go.RowKit
open Pl

set_option maxHeartbeats 400000 in
theorem is_any (s1 s2 : ByteArray) (h1 h2 : Int) (w : World) :
    Calls Try.prog 52 #[.agg #[.string s1, .int .u64 h1], .agg #[.string s2, .int .u64 h2]] w fun e w' => e = .returned (.bool (sameW s1 h1 s2 h2)) ∧ Below w.heap.size w w' := by
  unfold sameW
  cases hh : (h1 == h2)
  · go_enter Try.func52, Try.ntmps52
    go_wp2
    go_ret
    exact ⟨rfl, ((Below.refl _ _).alloc (Nat.le_refl _) _).alloc (by simp) _⟩
  · go_enter Try.func52, Try.ntmps52
    go_wp2
    go_ret
    exact ⟨rfl, ((Below.refl _ _).alloc (Nat.le_refl _) _).alloc (by simp) _⟩

attribute [local go_sem ↓] Go.wp_at_zero Go.wp_at_succ

theorem below_some {w w' : World} {a : Addr} {v : Value} (h : Below w.heap.size w w') (hc : w.cell? a = some v) : w'.cell? a = some v :=
  (h.cell (p := a) (World.block_lt_of_cell? w a hc)).trans hc

set_option maxHeartbeats 400000 in
theorem sameWords_any (b oa k ca b2 ob k2 cb : Nat) (T1 T2 : Nat → ByteArray) (H1 H2 : Nat → Int) (w : World) (hk : k ≤ 1048576) (hk2 : k ≤ k2) (hk3 : k2 ≤ 1048576)
    (c1 : ∀ j, j < k → w.cell? ⟨b, oa + j * 2, none⟩ = some (.string (T1 j)) ∧ w.cell? ⟨b, oa + j * 2 + 1, none⟩ = some (.int .u64 (H1 j)))
    (c2 : ∀ j, j < k → w.cell? ⟨b2, ob + j * 2, none⟩ = some (.string (T2 j)) ∧ w.cell? ⟨b2, ob + j * 2 + 1, none⟩ = some (.int .u64 (H2 j))) :
    Calls Try.prog 51 #[.slice (some ⟨b, oa, none⟩) k ca, .slice (some ⟨b2, ob, none⟩) k2 cb] w fun e w' => e = .returned (.bool (allTo (fun j => sameW (T1 j) (H1 j) (T2 j) (H2 j)) k)) ∧ Below w.heap.size w w' := by
  go_enter Try.func51, Try.ntmps51
  go_wp2
  go_loopw [8] (fun i wr => ∃ j : Nat, j ≤ k ∧ i = .int .i64 j ∧ allTo (fun j => sameW (T1 j) (H1 j) (T2 j) (H2 j)) j = true ∧ Below w.heap.size w wr) (fun i _ => k - (intOf i).toNat)
  case atStart => exact ⟨0, Nat.zero_le _, rfl, rfl, Below.refl _ _⟩
  case round =>
    obtain ⟨j, hj, rfl, hall, hb⟩ := hrel
    by_cases hlt : j < k
    · have a1 := below_some hb (c1 j hlt).1
      have a2 := below_some hb (c1 j hlt).2
      have a3 := below_some hb (c2 j hlt).1
      have a4 := below_some hb (c2 j hlt).2
      have i1 : (0 : Int) ≤ (j : Int) := by omega
      have i2 : (j : Int) < (k : Int) := by omega
      have i3 : (j : Int) < (k2 : Int) := by omega
      have HA : Hid _ := hall
      clear hall c1 c2
      cases hs : sameW (T1 j) (H1 j) (T2 j) (H2 j)
      all_goals
        go_wp2
        go_region_held3 (fun w' => w'.cell? ⟨b, oa + j * 2, none⟩ = some (.string (T1 j)) ∧ w'.cell? ⟨b, oa + j * 2 + 1, none⟩ = some (.int .u64 (H1 j)) ∧ w'.cell? ⟨b2, ob + j * 2, none⟩ = some (.string (T2 j)) ∧ w'.cell? ⟨b2, ob + j * 2 + 1, none⟩ = some (.int .u64 (H2 j)))
          (first | go_keep | (go_split_ands; refine ⟨?_, ?_, ?_, ?_⟩ <;> (refine below_some hb2 ?_; assumption)))
          (first | (go_at_call 52; refine (is_any _ _ _ _ _).mono ?_; rintro e w2 ⟨rfl, hb2⟩))
        have hB : Below w.heap.size w w2 := hb.drew.trans (hb2.mono hb.size)
        clear hb2 a1 a2 a3 a4
        go_wp2
      · go_ret
        exact ⟨by rw [allTo_false hlt hs]; rfl, hB⟩
      · go_roundw
        case rel => exact ⟨j + 1, by omega, by go_num, by rw [allTo_succ, HA.out, hs]; rfl, hB⟩
        case measure => simp [intOf]; omega
    · obtain rfl : j = k := by omega
      have HA : Hid _ := hall
      clear hall c1 c2
      go_wp2
      go_ret
      exact ⟨by rw [HA.out]; rfl, hb⟩

/-- The hash of a gram of k + 1 words. -/
def ghash (H : Nat → Int) : Nat → Int
  | 0 => H 0
  | k + 1 => bits .xor .u64 (IntKind.u64.wrap (ghash H k * 11400714819323198485)) (H (k + 1))

set_option maxHeartbeats 400000 in
theorem gramHash_any (b o n c : Nat) (T : Nat → ByteArray) (H : Nat → Int) (w : World) (h1 : 1 ≤ n) (hn : n ≤ 1048576) (hnc : n ≤ c)
    (hc : ∀ j, j < n → w.cell? ⟨b, o + j * 2, none⟩ = some (.string (T j)) ∧ w.cell? ⟨b, o + j * 2 + 1, none⟩ = some (.int .u64 (H j))) :
    Calls Try.prog 43 #[.slice (some ⟨b, o, none⟩) n c] w fun e w' => e = .returned (.int .u64 (ghash H (n - 1))) ∧ Below w.heap.size w w' := by
  obtain ⟨m, rfl⟩ : ∃ m, n = m + 1 := ⟨n - 1, by omega⟩
  have h0 : w.cell? ⟨b, o + 1, none⟩ = some (.int .u64 (H 0)) := by simpa using (hc 0 (by omega)).2
  have i0 : (0 : Int) < (m : Int) + 1 := by omega
  by_cases hc1 : c = 1
  · obtain rfl : m = 0 := by omega
    clear hc
    go_enter Try.func43, Try.ntmps43
    go_wp2
    refine wp_loop_rounds 1 ?_
    rw [rounds_succ]
    go_wp2
    go_ret
    exact ⟨rfl, Below.refl _ _⟩
  go_enter Try.func43, Try.ntmps43
  go_wp2
  go_loopw [3, 13] (fun h i wr => ∃ j : Nat, j ≤ m ∧ i = .int .i64 j ∧ h = .int .u64 (ghash H j) ∧ Below w.heap.size w wr) (fun _ i _ => m - (intOf i).toNat)
  case atStart => exact ⟨0, Nat.zero_le _, rfl, rfl, Below.refl _ _⟩
  case round =>
    obtain ⟨j, hj, rfl, rfl, hb⟩ := hrel
    by_cases hlt : j < m
    · have a1 : wr.cell? ⟨b, o + 2 + j * 2, none⟩ = some (.string (T (j + 1))) := by
        have := below_some hb (hc (j + 1) (by omega)).1
        rwa [show o + (j + 1) * 2 = o + 2 + j * 2 by omega] at this
      have a2 : wr.cell? ⟨b, o + 2 + j * 2 + 1, none⟩ = some (.int .u64 (H (j + 1))) := by
        have := below_some hb (hc (j + 1) (by omega)).2
        rwa [show o + (j + 1) * 2 = o + 2 + j * 2 by omega] at this
      clear hc h0
      go_wp2
      go_roundw
      case rel => exact ⟨j + 1, by omega, by go_num, rfl, hb.alloc hb.size _⟩
      case measure => simp [intOf]; omega
    · obtain rfl : j = m := by omega
      clear hc h0
      go_wp2
      go_ret
      exact ⟨rfl, hb⟩
end Go.Proofs.Qxb6602115a
