import Derived.Test.Qxb6602115aSlot
import Derived.Test.Qxb6602115aWordsG
import Derived.Test.Qxb6602115aTableB
namespace Go.Proofs.Qxb6602115a
open Go.RowKit
open Pl
attribute [local go_sem ↓] Go.wp_at_zero Go.wp_at_succ

theorem info57 : (Try.prog.info? 57).map (fun i => (i.zero, i.size, i.bytes)) = some (some (.agg #[.string ByteArray.empty, .int .u64 0, .int .i64 0, .int .i64 0]), 4, 40) := by kernel_rfl

theorem make57 (N : Nat) (hN : N ≤ 1048576) (w : World) :
    (Instr.makeSlice 51 (.int .i64 (N : Int)) (.int .i64 (N : Int))).run Try.prog w = .ok (.slice (some ⟨w.heap.size, 0, none⟩) N N) (w.alloc (.cells (madeCells #[.string ByteArray.empty, .int .u64 0, .int .i64 0, .int .i64 0] (N * 4)) 57)) := by
  obtain ⟨i, hi, hz, hs, hb⟩ := info_parts info57
  have h := run_make (P := Try.prog) w 51 57 i _ Try.underlying51 hi hz .i64 .i64 N N (by omega) (Int.le_refl _) (by rw [hb]; omega) (by omega)
  rw [hs, Int.toNat_natCast] at h
  exact h

/-- The cells of the table. -/
def slotCell (S : Nat → Slot) (j : Nat) : Value :=
  if j % 4 = 0 then .string (S (j / 4)).first else if j % 4 = 1 then .int .u64 (S (j / 4)).hash else if j % 4 = 2 then .int .i64 (S (j / 4)).start else .int .i64 (S (j / 4)).count

theorem slotCell_made (N : Nat) (w : World) :
    (w.alloc (.cells (madeCells #[.string ByteArray.empty, .int .u64 0, .int .i64 0, .int .i64 0] (N * 4)) 57)).rowIs w.heap.size 57 (N * 4) (slotCell (fun _ => ⟨ByteArray.empty, 0, 0, 0⟩)) := by
  have h := World.rowIs_alloc w (madeCells #[.string ByteArray.empty, .int .u64 0, .int .i64 0, .int .i64 0] (N * 4)) 57 (slotCell (fun _ => ⟨ByteArray.empty, 0, 0, 0⟩)) (fun i hi => by
    rw [size_madeCells] at hi
    unfold slotCell
    rcases (show i % 4 = 0 ∨ i % 4 = 1 ∨ i % 4 = 2 ∨ i % 4 = 3 by omega) with e | e | e | e <;> simp [madeCells, hi, e])
  rwa [size_madeCells] at h

section
variable {w : World} {gs N j : Nat} {S : Nat → Slot}
theorem slotCell_0 (h : w.rowIs gs 57 (N * 4) (slotCell S)) (hj : j < N) : w.cell? ⟨gs, j * 4, none⟩ = some (.string (S j).first) := by
  rw [h.cell (i := j * 4) (by omega)]; unfold slotCell; rw [if_pos (by omega), show j * 4 / 4 = j by omega]
theorem slotCell_1 (h : w.rowIs gs 57 (N * 4) (slotCell S)) (hj : j < N) : w.cell? ⟨gs, j * 4 + 1, none⟩ = some (.int .u64 (S j).hash) := by
  rw [h.cell (i := j * 4 + 1) (by omega)]; unfold slotCell; rw [if_neg (by omega), if_pos (by omega), show (j * 4 + 1) / 4 = j by omega]
theorem slotCell_2 (h : w.rowIs gs 57 (N * 4) (slotCell S)) (hj : j < N) : w.cell? ⟨gs, j * 4 + 2, none⟩ = some (.int .i64 (S j).start) := by
  rw [h.cell (i := j * 4 + 2) (by omega)]; unfold slotCell; rw [if_neg (by omega), if_neg (by omega), if_pos (by omega), show (j * 4 + 2) / 4 = j by omega]
theorem slotCell_3 (h : w.rowIs gs 57 (N * 4) (slotCell S)) (hj : j < N) : w.cell? ⟨gs, j * 4 + 3, none⟩ = some (.int .i64 (S j).count) := by
  rw [h.cell (i := j * 4 + 3) (by omega)]; unfold slotCell; rw [if_neg (by omega), if_neg (by omega), if_neg (by omega), show (j * 4 + 3) / 4 = j by omega]

/-- The count of slot a raised. -/
theorem slotCell_count {a : Nat} (h : w.rowIs gs 57 (N * 4) (slotCell S)) (c : Nat) :
    (w.setCell ⟨gs, a * 4 + 3, none⟩ (.int .i64 c)).rowIs gs 57 (N * 4) (slotCell (upd S a ⟨(S a).first, (S a).hash, (S a).start, c⟩)) := by
  refine (h.set (a * 4 + 3) _).congr fun j hj => ?_
  by_cases e : j = a * 4 + 3
  · rw [if_pos e]; unfold slotCell
    rw [if_neg (by omega), if_neg (by omega), if_neg (by omega), show j / 4 = a by omega, upd_at]
  · rw [if_neg e]; unfold slotCell
    by_cases ea : j / 4 = a
    · rw [ea, upd_at]
      by_cases e0 : j % 4 = 0
      · rw [if_pos e0, if_pos e0]
      · rw [if_neg e0, if_neg e0]
        by_cases e1 : j % 4 = 1
        · rw [if_pos e1, if_pos e1]
        · rw [if_neg e1, if_neg e1, if_pos (by omega), if_pos (by omega)]
    · rw [upd_other ea]

/-- Slot a laid anew. -/
theorem slotCell_lay {a : Nat} (h : w.rowIs gs 57 (N * 4) (slotCell S)) (x : Slot) :
    ((((w.setCell ⟨gs, a * 4, none⟩ (.string x.first)).setCell ⟨gs, a * 4 + 1, none⟩ (.int .u64 x.hash)).setCell ⟨gs, a * 4 + 2, none⟩ (.int .i64 x.start)).setCell ⟨gs, a * 4 + 3, none⟩ (.int .i64 x.count)).rowIs gs 57 (N * 4) (slotCell (upd S a x)) := by
  refine ((((h.set (a * 4) _).set (a * 4 + 1) _).set (a * 4 + 2) _).set (a * 4 + 3) _).congr fun j hj => ?_
  by_cases e3 : j = a * 4 + 3
  · rw [if_pos e3]; unfold slotCell
    rw [if_neg (by omega), if_neg (by omega), if_neg (by omega), show j / 4 = a by omega, upd_at]
  rw [if_neg e3]
  by_cases e2 : j = a * 4 + 2
  · rw [if_pos e2]; unfold slotCell
    rw [if_neg (by omega), if_neg (by omega), if_pos (by omega), show j / 4 = a by omega, upd_at]
  rw [if_neg e2]
  by_cases e1 : j = a * 4 + 1
  · rw [if_pos e1]; unfold slotCell
    rw [if_neg (by omega), if_pos (by omega), show j / 4 = a by omega, upd_at]
  rw [if_neg e1]
  by_cases e0 : j = a * 4
  · rw [if_pos e0]; unfold slotCell
    rw [if_pos (by omega), show j / 4 = a by omega, upd_at]
  rw [if_neg e0]; unfold slotCell
  rw [upd_other (show j / 4 ≠ a by omega)]

/-- .. and counted once. -/
theorem slotCell_put {a : Nat} (h : w.rowIs gs 57 (N * 4) (slotCell S)) (f : ByteArray) (hs st : Nat) :
    (((((w.setCell ⟨gs, a * 4, none⟩ (.string f)).setCell ⟨gs, a * 4 + 1, none⟩ (.int .u64 hs)).setCell ⟨gs, a * 4 + 2, none⟩ (.int .i64 st)).setCell ⟨gs, a * 4 + 3, none⟩ (.int .i64 0)).setCell ⟨gs, a * 4 + 3, none⟩ (.int .i64 1)).rowIs gs 57 (N * 4) (slotCell (upd S a ⟨f, hs, st, 1⟩)) := by
  have h1 := slotCell_lay (a := a) h ⟨f, hs, st, 0⟩
  have h2 := slotCell_count (a := a) h1 1
  refine World.rowIs.congr h2 fun j _ => ?_
  have e : upd (upd S a ⟨f, hs, st, 0⟩) a ⟨(upd S a ⟨f, hs, st, 0⟩ a).first, (upd S a ⟨f, hs, st, 0⟩ a).hash, (upd S a ⟨f, hs, st, 0⟩ a).start, 1⟩ = upd S a ⟨f, hs, st, 1⟩ := by
    funext i
    by_cases e : i = a
    · rw [e, upd_at, upd_at, upd_at]
    · rw [upd_other e, upd_other e, upd_other e]
  rw [e]
end

/-- The cells of the counts themselves. -/
def cntCell (v0 v1 v2 : Value) (j : Nat) : Value := if j = 0 then v0 else if j = 1 then v1 else v2

end Go.Proofs.Qxb6602115a
