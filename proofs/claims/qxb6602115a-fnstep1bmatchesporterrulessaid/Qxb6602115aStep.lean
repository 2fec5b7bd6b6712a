import Derived.Test.Qxb6602115aSuffix
import Derived.Test.Qxb6602115aWords
import Derived.Test.Qxb6602115aCvc
import Derived.Test.Qxb6602115aClone
import Derived.Test.Qxb6602115aMemB
namespace Go.Proofs.Qxb6602115a
open Go.RowKit
open Pl

/-- The letters of a word of n letters lie in block g, and nothing but g has turned since w. -/
structure Word (w : World) (g n : Nat) (z : Nat → Int) (w' : World) : Prop where
  row : w'.rowIs g 5 n (fun k => .int .u8 (z k))
  grown : w.grownBy w' (some g)

theorem Word.refl {w : World} {g n : Nat} {z : Nat → Int} (h : w.rowIs g 5 n (fun k => .int .u8 (z k))) : Word w g n z w := ⟨h, World.grownBy.refl _ _⟩
theorem Word.quiet {w w1 w2 : World} {g n : Nat} {z : Nat → Int} (h : Word w g n z w1) (hq : ∃ m, w2 = w1.drewN m) : Word w g n z w2 := by
  obtain ⟨m, rfl⟩ := hq
  exact ⟨h.row, ⟨h.grown.os, h.grown.tape, h.grown.output, h.grown.size, h.grown.block⟩⟩
theorem Word.cells {w w1 : World} {g n : Nat} {z : Nat → Int} (h : Word w g n z w1) {m : Nat} (hm : m ≤ n) : ∀ k, k < m → w1.cell? ⟨g, 0 + k, none⟩ = some (.int .u8 (z k)) := fun k hk => by
  rw [Nat.zero_add]; exact h.row.cell (by omega)

/-- What step 1b leaves. -/
def Stepped (w : World) (g n : Nat) (z : Nat → Int) (r : Nat × Option Int) (e : Ending) (w' : World) : Prop :=
  e = .returned (.slice (some ⟨g, 0, none⟩) r.1 n) ∧ Word w g n (laid z r) w'

theorem Word.none {w w1 : World} {g n : Nat} {z : Nat → Int} (h : Word w g n z w1) (k : Nat) : Word w g n (laid z (k, Option.none)) w1 := h
/-- A letter laid behind the first k. -/
theorem Word.put {w w1 w2 : World} {g n : Nat} {z : Nat → Int} (h : Word w g n z w1) (o : Obj) (k : Nat) (v : Int)
    (hr : w2.rowIs g 5 n (fun j => if j = k then .int .u8 v else .int .u8 (z j))) (ho : Only g (w1.alloc o) w2) : Word w g n (laid z (k + 1, some v)) w2 := by
  refine ⟨hr.congr fun i _ => ?_, ?_⟩
  · simp only [laid]
    by_cases e : i = k
    · subst e; simp
    · rw [if_neg e, if_neg (by omega)]
  · have hsz : w1.heap.size ≤ w2.heap.size := by rw [ho.size]; simp
    refine ⟨ho.os.trans h.grown.os, ho.tape.trans h.grown.tape, ho.output.trans h.grown.output, Nat.le_trans h.grown.size hsz, fun j hj hne => ?_⟩
    have hjg : j ≠ g := fun e => hne (by rw [e])
    rw [ho.block j hjg, Below.heap_alloc _ _ _ (by have := h.grown.size; omega)]
    exact h.grown.block j hj hne

theorem suf_ied (a : Option Addr) (b off n c : Nat) (z : Nat → Int) (w : World) (hnc : n ≤ c) (hn : n ≤ 9223372036854775807) (ha : 0 < n → a = some ⟨b, off, none⟩)
    (hz : ∀ k, k < n → 0 ≤ z k ∧ z k ≤ 255) (hc : ∀ k, k < n → w.cell? ⟨b, off + k, none⟩ = some (.int .u8 (z k))) :
    Calls Try.prog 44 #[.slice a n c, .string ⟨#[105, 101, 100]⟩] w fun e w' => e = .returned (.bool (ends3 z n 105 101 100)) ∧ ∃ m, w' = w.drewN m := suffix3 a b off n c 105 101 100 z w hnc hn ha hz hc
theorem suf_eed (a : Option Addr) (b off n c : Nat) (z : Nat → Int) (w : World) (hnc : n ≤ c) (hn : n ≤ 9223372036854775807) (ha : 0 < n → a = some ⟨b, off, none⟩)
    (hz : ∀ k, k < n → 0 ≤ z k ∧ z k ≤ 255) (hc : ∀ k, k < n → w.cell? ⟨b, off + k, none⟩ = some (.int .u8 (z k))) :
    Calls Try.prog 44 #[.slice a n c, .string ⟨#[101, 101, 100]⟩] w fun e w' => e = .returned (.bool (ends3 z n 101 101 100)) ∧ ∃ m, w' = w.drewN m := suffix3 a b off n c 101 101 100 z w hnc hn ha hz hc
theorem suf_ing (a : Option Addr) (b off n c : Nat) (z : Nat → Int) (w : World) (hnc : n ≤ c) (hn : n ≤ 9223372036854775807) (ha : 0 < n → a = some ⟨b, off, none⟩)
    (hz : ∀ k, k < n → 0 ≤ z k ∧ z k ≤ 255) (hc : ∀ k, k < n → w.cell? ⟨b, off + k, none⟩ = some (.int .u8 (z k))) :
    Calls Try.prog 44 #[.slice a n c, .string ⟨#[105, 110, 103]⟩] w fun e w' => e = .returned (.bool (ends3 z n 105 110 103)) ∧ ∃ m, w' = w.drewN m := suffix3 a b off n c 105 110 103 z w hnc hn ha hz hc
theorem suf_ed (a : Option Addr) (b off n c : Nat) (z : Nat → Int) (w : World) (hnc : n ≤ c) (hn : n ≤ 9223372036854775807) (ha : 0 < n → a = some ⟨b, off, none⟩)
    (hz : ∀ k, k < n → 0 ≤ z k ∧ z k ≤ 255) (hc : ∀ k, k < n → w.cell? ⟨b, off + k, none⟩ = some (.int .u8 (z k))) :
    Calls Try.prog 44 #[.slice a n c, .string ⟨#[101, 100]⟩] w fun e w' => e = .returned (.bool (ends2 z n 101 100)) ∧ ∃ m, w' = w.drewN m := suffix2 a b off n c 101 100 z w hnc hn ha hz hc
theorem suf_at (a : Option Addr) (b off n c : Nat) (z : Nat → Int) (w : World) (hnc : n ≤ c) (hn : n ≤ 9223372036854775807) (ha : 0 < n → a = some ⟨b, off, none⟩)
    (hz : ∀ k, k < n → 0 ≤ z k ∧ z k ≤ 255) (hc : ∀ k, k < n → w.cell? ⟨b, off + k, none⟩ = some (.int .u8 (z k))) :
    Calls Try.prog 44 #[.slice a n c, .string ⟨#[97, 116]⟩] w fun e w' => e = .returned (.bool (ends2 z n 97 116)) ∧ ∃ m, w' = w.drewN m := suffix2 a b off n c 97 116 z w hnc hn ha hz hc
theorem suf_bl (a : Option Addr) (b off n c : Nat) (z : Nat → Int) (w : World) (hnc : n ≤ c) (hn : n ≤ 9223372036854775807) (ha : 0 < n → a = some ⟨b, off, none⟩)
    (hz : ∀ k, k < n → 0 ≤ z k ∧ z k ≤ 255) (hc : ∀ k, k < n → w.cell? ⟨b, off + k, none⟩ = some (.int .u8 (z k))) :
    Calls Try.prog 44 #[.slice a n c, .string ⟨#[98, 108]⟩] w fun e w' => e = .returned (.bool (ends2 z n 98 108)) ∧ ∃ m, w' = w.drewN m := suffix2 a b off n c 98 108 z w hnc hn ha hz hc
theorem suf_iz (a : Option Addr) (b off n c : Nat) (z : Nat → Int) (w : World) (hnc : n ≤ c) (hn : n ≤ 9223372036854775807) (ha : 0 < n → a = some ⟨b, off, none⟩)
    (hz : ∀ k, k < n → 0 ≤ z k ∧ z k ≤ 255) (hc : ∀ k, k < n → w.cell? ⟨b, off + k, none⟩ = some (.int .u8 (z k))) :
    Calls Try.prog 44 #[.slice a n c, .string ⟨#[105, 122]⟩] w fun e w' => e = .returned (.bool (ends2 z n 105 122)) ∧ ∃ m, w' = w.drewN m := suffix2 a b off n c 105 122 z w hnc hn ha hz hc

set_option maxHeartbeats 1000000 in
theorem step_ied (g n : Nat) (z : Nat → Int) (w : World) (hn : n ≤ 1048576) (hz : ∀ k, k < n → 0 ≤ z k ∧ z k ≤ 255) (hrow : w.rowIs g 5 n (fun k => .int .u8 (z k))) (h1 : ends3 z n 105 101 100 = true) :
    Calls Try.prog 39 #[.slice (some ⟨g, 0, none⟩) n n] w fun e w' => Stepped w g n z (stepB z n) e w' := by
  obtain ⟨i5, hi, hz0, hz1, hz2⟩ := info_parts info5
  have hle := ends3_le h1
  have hW := Word.refl hrow
  by_cases h4 : n = 4
  · have e : stepB z n = (3, none) := by unfold stepB; rw [if_pos h1, if_pos h4]
    rw [e]
    subst h4
    go_enter Try.func39, Try.ntmps39
    go_wp2_with fail
    refine (suf_ied _ g 0 4 4 z _ (by omega) (by omega) (fun _ => rfl) hz (hW.cells (Nat.le_refl _))).mono ?_
    rintro e w1 ⟨rfl, hq⟩
    rw [h1]
    have hW1 := hW.quiet hq
    clear hW hq
    go_wp2_with fail
    go_ret
    exact ⟨rfl, hW1.none _⟩
  · have e : stepB z n = (n - 2, some 105) := by unfold stepB; rw [if_pos h1, if_neg h4]
    rw [e]
    obtain ⟨q, rfl⟩ : ∃ q, n = q + 3 := ⟨n - 3, by omega⟩
    go_enter Try.func39, Try.ntmps39
    go_wp2_with fail
    refine (suf_ied _ g 0 (q + 3) (q + 3) z _ (by omega) (by omega) (fun _ => rfl) hz (hW.cells (Nat.le_refl _))).mono ?_
    rintro e w1 ⟨rfl, hq⟩
    rw [h1]
    have hW1 := hW.quiet hq
    clear hW hq hrow
    have hn4 : (((q + 3 : Nat) : Int) == 4) = false := by simp; omega
    go_wp2_with (at_builtin; refine wpList_append_one rfl (.tmp 15) (.tmp 16) 22 rfl 5 i5 Try.underlying22 hi hz1 g q (q + 3) (q + 3) _ rfl (hW1.row.alloc _) ⟨w1.heap.size, 0, none⟩ 1 (.int .u8 105) rfl ?_ rfl (by omega) (by omega) ?_)
    · simp
    · intro w2 hr ho
      go_wp2_with fail
      go_ret
      exact ⟨rfl, hW1.put _ q 105 hr ho⟩

end Go.Proofs.Qxb6602115a
