import Derived.Test.Qxb6602115aProg
import Derived.Test.Qxb6602115aMem
import Derived.WalkKit
import Derived.WalkSpells
import Derived.Lib.SliceRun
namespace Go.Proofs.Qxb6602115a
open Go.RowKit

theorem info5 : (Try.prog.info? 5).map (fun i => (i.zero, i.size, i.bytes)) = some (some (.int .u8 0), 1, 1) := by kernel_rfl
theorem size5 : (Try.prog.info? 5).map (·.size) = some 1 := by kernel_rfl

/-- A slice of n elements in new memory: its block holds 'f k' at place k; all that was there stays. -/
def Fresh (t : TypeId) (n : Nat) (f : Nat → Value) (w : World) (e : Ending) (w' : World) : Prop :=
  ∃ a' g, e = .returned (.slice a' n n) ∧ (0 < n → a' = some ⟨g, 0, none⟩) ∧ w.heap.size ≤ g ∧ (0 < n → w'.rowIs g t n f) ∧ Below w.heap.size w w'

set_option maxHeartbeats 400000 in
theorem clone_any (a : Option Addr) (b off n c : Nat) (z : Nat → Int) (w : World) (hn : n ≤ 1048576) (hnil : a = none → n = 0 ∧ c = 0) (ha : 0 < n → a = some ⟨b, off, none⟩)
    (hc : ∀ k, k < n → w.cell? ⟨b, off + k, none⟩ = some (.int .u8 (z k))) :
    Calls Try.prog 11 #[.slice a n c] w fun e w' => Fresh 5 n (fun k => .int .u8 (z k)) w e w' := by
  have q22 : ∀ (w : World) (a : Option Addr) (n c n' c' : Nat), (binOp .eql 22 (.slice a n c) (.slice none n' c')).run Try.prog w = .ok (.bool a.isNone) w := fun w a n c n' c' => Lib.run_eql_slice_nil w _ _ a n c n' c' Try.underlying22
  cases a with
  | none =>
    obtain ⟨rfl, rfl⟩ := hnil rfl
    go_enter Try.func11, Try.ntmps11
    go_wp2
    go_ret
    exact ⟨none, w.heap.size, rfl, fun h => absurd h (by omega), Nat.le_refl _, fun h => absurd h (by omega), Below.refl _ _⟩
  | some ad =>
    have hmk := run_make_row' (P := Try.prog) 22 5 (.int .u8 0) 1 Try.underlying22 info5 rfl .i64 .i64 n (by omega) (by omega)
    go_enter Try.func11, Try.ntmps11
    go_wp2_with (refine wpList_copy_rows rfl (.tmp 9) (.tmp 10) 22 22 rfl 5 Try.underlying22 size5 w.heap.size n n (some ad) n c rfl rfl 5 n _ (World.rowIs_made w (.int .u8 0) n 5) n (Nat.min_self n).symm (Nat.le_refl _) (fun k => .int .u8 (z k)) b off ha ?_ (fun _ _ => rfl) ?_)
    · intro k hk
      exact ((Below.refl w.heap.size w).alloc (Nat.le_refl _) _).cell (p := ⟨b, off + k, none⟩) (World.block_lt_of_cell? w _ (hc k hk)) |>.trans (hc k hk)
    · intro w1 hrow honly
      go_wp2
      go_ret
      exact ⟨_, _, rfl, fun _ => rfl, Nat.le_refl _, fun _ => hrow.congr (fun i hi => by simp [hi]), honly.below ((Below.refl _ _).alloc (Nat.le_refl _) _) (Nat.le_refl _)⟩
end Go.Proofs.Qxb6602115a
