import Derived.Test.Qxb6602115aModelA
import Derived.Test.Qxb6602115aClone
import Derived.Test.Qxb6602115aPlainC
import Derived.Test.Qxb6602115aCvcM
namespace Go.Proofs.Qxb6602115a
open Go.RowKit
open Pl

set_option maxHeartbeats 400000 in
theorem zzPrefix_none (a : Option Addr) (z : Nat → Int) (w : World) :
    Calls Try.prog 34 #[.slice a 0 0, .int .i64 0] w fun e w' => Fresh 5 0 (fun k => .int .u8 (z k)) w e w' := by
  have hmk := run_make_row' (P := Try.prog) 22 5 (.int .u8 0) 1 Try.underlying22 info5 rfl .i64 .i64 0 (by omega) (by omega)
  simp only [show ((0 : Nat) : Int) = 0 from rfl] at hmk
  cases a with
  | none =>
    go_enter Try.func34, Try.ntmps34
    go_wp2_with (refine wpList_copy_rows rfl (.tmp 8) (.tmp 11) 22 22 rfl 5 Try.underlying22 size5 w.heap.size 0 0 none 0 0 rfl rfl 5 0 _ (World.rowIs_made w (.int .u8 0) 0 5) 0 rfl (Nat.le_refl _) (fun k => .int .u8 (z k)) 0 0 (fun h => absurd h (by omega)) (fun k h => absurd h (by omega)) (fun _ _ => rfl) ?_)
    intro w1 hrow honly
    go_wp2
    go_ret
    exact ⟨_, w.heap.size, rfl, fun h => absurd h (by omega), Nat.le_refl _, fun h => absurd h (by omega), honly.below ((Below.refl _ _).alloc (Nat.le_refl _) _) (Nat.le_refl _)⟩
  | some ad =>
    go_enter Try.func34, Try.ntmps34
    go_wp2_with (refine wpList_copy_rows rfl (.tmp 8) (.tmp 11) 22 22 rfl 5 Try.underlying22 size5 w.heap.size 0 0 _ 0 0 rfl rfl 5 0 _ (World.rowIs_made w (.int .u8 0) 0 5) 0 rfl (Nat.le_refl _) (fun k => .int .u8 (z k)) 0 0 (fun h => absurd h (by omega)) (fun k h => absurd h (by omega)) (fun _ _ => rfl) ?_)
    intro w1 hrow honly
    go_wp2
    go_ret
    exact ⟨_, w.heap.size, rfl, fun h => absurd h (by omega), Nat.le_refl _, fun h => absurd h (by omega), honly.below ((Below.refl _ _).alloc (Nat.le_refl _) _) (Nat.le_refl _)⟩

set_option maxHeartbeats 400000 in
theorem zzPrefix_word (b off n c : Nat) (i : Int) (k : Nat) (hi : i = k) (z : Nat → Int) (w : World) (hn : n ≤ 1048576) (hk : k ≤ n) (hkc : n ≤ c)
    (hc : ∀ k, k < n → w.cell? ⟨b, off + k, none⟩ = some (.int .u8 (z k))) :
    Calls Try.prog 34 #[.slice (some ⟨b, off, none⟩) n c, .int .i64 i] w fun e w' => Fresh 5 k (fun k => .int .u8 (z k)) w e w' := by
  subst hi
  have hmk := run_make_row' (P := Try.prog) 22 5 (.int .u8 0) 1 Try.underlying22 info5 rfl .i64 .i64 k (by omega) (by omega)
  have b1 : (k : Int) ≤ (c : Int) := by omega
  have b0 : (0 : Int) ≤ (k : Int) := by omega
  go_enter Try.func34, Try.ntmps34
  go_wp2_with (refine wpList_copy_rows rfl (.tmp 8) (.tmp 11) 22 22 rfl 5 Try.underlying22 size5 w.heap.size k k (some ⟨b, off, none⟩) k c rfl rfl 5 k _ (World.rowIs_made w (.int .u8 0) k 5) k (Nat.min_self k).symm (Nat.le_refl _) (fun k => .int .u8 (z k)) b off (fun _ => rfl) ?_ (fun _ _ => rfl) ?_)
  · intro j hj
    exact ((Below.refl w.heap.size w).alloc (Nat.le_refl _) _).cell (p := ⟨b, off + j, none⟩) (World.block_lt_of_cell? w _ (hc j (by omega))) |>.trans (hc j (by omega))
  · intro w1 hrow honly
    go_wp2
    go_ret
    exact ⟨_, _, rfl, fun _ => rfl, Nat.le_refl _, fun _ => hrow.congr (fun i hi => by simp [hi]), honly.below ((Below.refl _ _).alloc (Nat.le_refl _) _) (Nat.le_refl _)⟩

set_option maxHeartbeats 400000 in
theorem zzPlusE_word (b off n c : Nat) (i : Int) (k : Nat) (hi : i = k) (z : Nat → Int) (w : World) (hn : n ≤ 1048576) (hk : k ≤ n) (hkc : n ≤ c)
    (hc : ∀ k, k < n → w.cell? ⟨b, off + k, none⟩ = some (.int .u8 (z k))) :
    Calls Try.prog 37 #[.slice (some ⟨b, off, none⟩) n c, .int .i64 i] w fun e w' => Fresh 5 (k + 1) (fun j => .int .u8 (laid z (k + 1, some 101) j)) w e w' := by
  subst hi
  have hmk := run_make_row' (P := Try.prog) 22 5 (.int .u8 0) 1 Try.underlying22 info5 rfl .i64 .i64 (k + 1) (by omega) (by omega)
  simp only [show ((k + 1 : Nat) : Int) = (k : Int) + 1 from rfl] at hmk
  have b1 : (k : Int) ≤ (c : Int) := by omega
  have b0 : (0 : Int) ≤ (k : Int) := by omega
  have b2 : (k : Int) < (k : Int) + 1 := by omega
  go_enter Try.func37, Try.ntmps37
  go_wp2_with (refine wpList_copy_rows rfl (.tmp 9) (.tmp 12) 22 22 rfl 5 Try.underlying22 size5 w.heap.size (k + 1) (k + 1) (some ⟨b, off, none⟩) k c rfl rfl 5 (k + 1) _ (World.rowIs_made w (.int .u8 0) (k + 1) 5) k (Nat.min_eq_left (by omega)).symm (by omega) (fun k => .int .u8 (z k)) b off (fun _ => rfl) ?_ (fun _ _ => rfl) ?_)
  · intro j hj
    exact ((Below.refl w.heap.size w).alloc (Nat.le_refl _) _).cell (p := ⟨b, off + j, none⟩) (World.block_lt_of_cell? w _ (hc j (by omega))) |>.trans (hc j (by omega))
  · intro w1 hrow honly
    have x1 := hrow.cell (i := k) (by omega)
    have x2 := hrow.frozen k
    have hb1 : Below w.heap.size w w1 := honly.below ((Below.refl _ _).alloc (Nat.le_refl _) _) (Nat.le_refl _)
    clear hmk hc
    go_wp2
    go_ret
    refine ⟨_, _, rfl, fun _ => rfl, Nat.le_refl _, fun _ => (hrow.set k _).congr (fun j hj => ?_), hb1.setCell (p := ⟨w.heap.size, k, none⟩) (Nat.le_refl _) _⟩
    by_cases e : j = k
    · subst e; rw [if_pos rfl, laid_last]
    · rw [if_neg e, if_pos (by omega), laid_before (by show j + 1 < k + 1; omega)]
end Go.Proofs.Qxb6602115a
