import Derived.Test.Qxb6602115aGram
import Derived.BigRegion
namespace Go.Proofs.Qxb6602115a
open Go.RowKit
open Pl
attribute [local go_sem ↓] Go.wp_at_zero Go.wp_at_succ

theorem info59 : (Try.prog.info? 59).map (fun i => (i.zero, i.size, i.bytes)) = some (some (.agg #[.string ByteArray.empty, .int .u64 0]), 2, 24) := by kernel_rfl

theorem make59 (m : Nat) (hm : m ≤ 1048576) (w : World) :
    (Instr.makeSlice 50 (.int .i64 (m : Int)) (.int .i64 (m : Int))).run Try.prog w = .ok (.slice (some ⟨w.heap.size, 0, none⟩) m m) (w.alloc (.cells (madeCells #[.string ByteArray.empty, .int .u64 0] (m * 2)) 59)) := by
  obtain ⟨i, hi, hz, hs, hb⟩ := info_parts info59
  have h := run_make (P := Try.prog) w 50 59 i _ Try.underlying50 hi hz .i64 .i64 m m (by omega) (Int.le_refl _) (by rw [hb]; omega) (by omega)
  rw [hs, Int.toNat_natCast] at h
  exact h

/-- The cells of the words laid so far. -/
def wordCell (T : Nat → ByteArray) (H : Nat → Nat) (k j : Nat) : Value :=
  if j / 2 < k then (if j % 2 = 0 then .string (T (j / 2)) else .int .u64 (H (j / 2))) else (if j % 2 = 0 then .string ByteArray.empty else .int .u64 0)

theorem wordCell_made (T : Nat → ByteArray) (H : Nat → Nat) (m : Nat) (w : World) :
    (w.alloc (.cells (madeCells #[.string ByteArray.empty, .int .u64 0] (m * 2)) 59)).rowIs w.heap.size 59 (m * 2) (wordCell T H 0) := by
  have h := World.rowIs_alloc w (madeCells #[.string ByteArray.empty, .int .u64 0] (m * 2)) 59 (wordCell T H 0) (fun i hi => by
    rw [size_madeCells] at hi
    unfold wordCell
    rw [if_neg (by omega)]
    rcases Nat.mod_two_eq_zero_or_one i with e | e <;> simp [madeCells, hi, e])
  rwa [size_madeCells] at h

theorem wordCell_step {g m k : Nat} {T : Nat → ByteArray} {H : Nat → Nat} {w : World} (h : w.rowIs g 59 (m * 2) (wordCell T H k)) :
    ((w.setCell ⟨g, k * 2, none⟩ (.string (T k))).setCell ⟨g, k * 2 + 1, none⟩ (.int .u64 (H k))).rowIs g 59 (m * 2) (wordCell T H (k + 1)) := by
  refine ((h.set (k * 2) _).set (k * 2 + 1) _).congr fun j hj => ?_
  by_cases e1 : j = k * 2 + 1
  · rw [if_pos e1]
    unfold wordCell
    rw [if_pos (by omega), if_neg (by omega), show j / 2 = k by omega]
  · rw [if_neg e1]
    by_cases e2 : j = k * 2
    · rw [if_pos e2]
      unfold wordCell
      rw [if_pos (by omega), if_pos (by omega), show j / 2 = k by omega]
    · rw [if_neg e2]
      unfold wordCell
      by_cases e3 : j / 2 < k
      · rw [if_pos e3, if_pos (show j / 2 < k + 1 by omega)]
      · rw [if_neg e3, if_neg (show ¬ j / 2 < k + 1 by omega)]

/-- The words in new memory. -/
def Worded (m : Nat) (T : Nat → ByteArray) (H : Nat → Nat) (w : World) (e : Ending) (w' : World) : Prop :=
  e = .returned (.slice (some ⟨w.heap.size, 0, none⟩) m m) ∧ w'.rowIs w.heap.size 59 (m * 2) (wordCell T H m) ∧ Below w.heap.size w w'

set_option maxHeartbeats 1000000 in
theorem zzWords_any (a a2 : Option Addr) (b off b2 off2 m c m2 c2 : Nat) (T : Nat → ByteArray) (H : Nat → Nat) (w : World) (hm : m ≤ 1048576) (hm2 : m ≤ m2) (hm3 : m2 ≤ 1048576)
    (ha : 0 < m → a = some ⟨b, off, none⟩) (ha2 : 0 < m → a2 = some ⟨b2, off2, none⟩)
    (hc : ∀ k, k < m → w.cell? ⟨b, off + k, none⟩ = some (.string (T k))) (hc2 : ∀ k, k < m → w.cell? ⟨b2, off2 + k, none⟩ = some (.int .u64 (H k))) :
    Calls Try.prog 42 #[.slice a m c, .slice a2 m2 c2] w fun e w' => Worded m T H w e w' := by
  have hmk := make59 m hm
  go_enter Try.func42, Try.ntmps42
  go_wp2
  go_loopw [12] (fun i wr => ∃ k : Nat, k ≤ m ∧ i = .int .i64 k ∧ wr.rowIs w.heap.size 59 (m * 2) (wordCell T H k) ∧ Below w.heap.size w wr) (fun i _ => m - (intOf i).toNat)
  case atStart => exact ⟨0, Nat.zero_le _, rfl, wordCell_made T H m w, (Below.refl _ _).alloc (Nat.le_refl _) _⟩
  case round =>
    obtain ⟨k, hk, rfl, hrow, hb⟩ := hrel
    clear hmk
    by_cases hlt : k < m
    · obtain rfl := ha (by omega)
      obtain rfl := ha2 (by omega)
      have x1 := below_some hb (hc k hlt)
      have x2 := below_some hb (hc2 k hlt)
      have y1 := hrow.cell (i := k * 2) (by omega)
      have y2 := hrow.cell (i := k * 2 + 1) (by omega)
      have f1 := hrow.frozen (k * 2)
      have f2 := hrow.frozen (k * 2 + 1)
      have n1 : b ≠ w.heap.size := by have := World.block_lt_of_cell? w _ (hc k hlt); simp only at this; omega
      have n2 : b2 ≠ w.heap.size := by have := World.block_lt_of_cell? w _ (hc2 k hlt); simp only at this; omega
      have i1 : (0 : Int) ≤ (k : Int) := by omega
      have i2 : (k : Int) < (m : Int) := by omega
      have i3 : (k : Int) < (m2 : Int) := by omega
      have i4 : k < m2 := by omega
      clear hc hc2 ha ha2
      go_wp2
      go_region
      go_wp2
      go_roundw
      case rel => exact ⟨k + 1, by omega, by go_num, wordCell_step hrow, ((hb.setCell (p := ⟨w.heap.size, k * 2, none⟩) (Nat.le_refl _) _).setCell (p := ⟨w.heap.size, k * 2 + 1, none⟩) (Nat.le_refl _) _).drew⟩
      case measure => simp [intOf]; omega
    · obtain rfl : k = m := by omega
      go_wp2
      go_ret
      exact ⟨rfl, hrow, hb⟩

theorem Worded.text {m : Nat} {T : Nat → ByteArray} {H : Nat → Nat} {g : Nat} {w : World} (h : w.rowIs g 59 (m * 2) (wordCell T H m)) {j : Nat} (hj : j < m) : w.cell? ⟨g, j * 2, none⟩ = some (.string (T j)) := by
  rw [h.cell (i := j * 2) (by omega)]
  unfold wordCell
  rw [if_pos (by omega), if_pos (by omega), show j * 2 / 2 = j by omega]
theorem Worded.hash {m : Nat} {T : Nat → ByteArray} {H : Nat → Nat} {g : Nat} {w : World} (h : w.rowIs g 59 (m * 2) (wordCell T H m)) {j : Nat} (hj : j < m) : w.cell? ⟨g, j * 2 + 1, none⟩ = some (.int .u64 (H j)) := by
  rw [h.cell (i := j * 2 + 1) (by omega)]
  unfold wordCell
  rw [if_pos (by omega), if_neg (by omega), show (j * 2 + 1) / 2 = j by omega]

set_option maxHeartbeats 400000 in
/-- 'ZZGramHash' of n words. -/
theorem zzGramHash_any (b off n c b2 off2 n2 c2 : Nat) (T : Nat → ByteArray) (H : Nat → Nat) (w : World) (h1 : 1 ≤ n) (hn : n ≤ 1048576) (hn2 : n ≤ n2) (hn3 : n2 ≤ 1048576)
    (hc : ∀ k, k < n → w.cell? ⟨b, off + k, none⟩ = some (.string (T k))) (hc2 : ∀ k, k < n → w.cell? ⟨b2, off2 + k, none⟩ = some (.int .u64 (H k))) :
    Calls Try.prog 32 #[.slice (some ⟨b, off, none⟩) n c, .slice (some ⟨b2, off2, none⟩) n2 c2] w fun e w' => e = .returned (.int .u64 (ghash (fun j => (H j : Int)) (n - 1))) ∧ Below w.heap.size w w' := by
  go_enter Try.func32, Try.ntmps32
  go_wp2_with fail
  refine (zzWords_any _ _ b off b2 off2 n c n2 c2 T H _ hn hn2 hn3 (fun _ => rfl) (fun _ => rfl) hc hc2).mono ?_
  rintro e w1 ⟨rfl, hr, hb⟩
  clear hc hc2
  go_wp2_with fail
  refine (gramHash_any w.heap.size 0 n n T (fun j => (H j : Int)) _ h1 hn (Nat.le_refl _) (fun j hj => by rw [Nat.zero_add]; exact ⟨Worded.text hr hj, Worded.hash hr hj⟩)).mono ?_
  rintro e w2 ⟨rfl, hb2⟩
  have hB := hb.trans (hb2.mono hb.size)
  clear hb hb2 hr
  go_wp2_with fail
  go_ret
  exact ⟨rfl, hB⟩
end Go.Proofs.Qxb6602115a
