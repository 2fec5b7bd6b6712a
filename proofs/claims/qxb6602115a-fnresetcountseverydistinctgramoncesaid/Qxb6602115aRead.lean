import Derived.Test.Qxb6602115aResetW
namespace Go.Proofs.Qxb6602115a
open Go.RowKit
open Pl
attribute [local go_sem ↓] Go.wp_at_zero Go.wp_at_succ

theorem info9 : (Try.prog.info? 9).map (fun i => (i.zero, i.size, i.bytes)) = some (some (.string ByteArray.empty), 1, 16) := by kernel_rfl
theorem info42 : (Try.prog.info? 42).map (fun i => (i.zero, i.size, i.bytes)) = some (some (.int .u64 0), 1, 8) := by kernel_rfl
theorem info3 : (Try.prog.info? 3).map (fun i => (i.zero, i.size, i.bytes)) = some (some (.int .i64 0), 1, 8) := by kernel_rfl

/-- A row laid as far as k. -/
def partTo (k : Nat) (f : Nat → Value) (z : Value) (j : Nat) : Value := if j < k then f j else z
theorem part_step {w : World} {g N k : Nat} {t : TypeId} {f : Nat → Value} {z : Value} (h : w.rowIs g t N (partTo k f z)) : (w.setCell ⟨g, k, none⟩ (f k)).rowIs g t N (partTo (k + 1) f z) := by
  refine (h.set k (f k)).congr fun j _ => ?_
  unfold partTo
  by_cases e : j = k
  · subst e; simp
  · rw [if_neg e]
    by_cases e2 : j < k
    · rw [if_pos e2, if_pos (by omega)]
    · rw [if_neg e2, if_neg (by omega)]
theorem part_made (w : World) (z : Value) (n : Nat) (t : TypeId) (f : Nat → Value) : (w.alloc (.cells (madeCells #[z] n) t)).rowIs w.heap.size t n (partTo 0 f z) :=
  (World.rowIs_made w z n t).congr fun _ _ => rfl
theorem part_full {w : World} {g N : Nat} {t : TypeId} {f : Nat → Value} {z : Value} (h : w.rowIs g t N (partTo N f z)) : w.rowIs g t N f :=
  h.congr fun i hi => by unfold partTo; rw [if_pos hi]

/-- What stands while the slots are read. -/
structure Reading (w : World) (gt gw gs g m n N : Nat) (T : Nat → ByteArray) (H : Nat → Nat) (S : Nat → Slot) (k : Nat) (wr : World) : Prop where
  cnt : wr.rowIs gt 53 3 (cntCell (.slice (some ⟨gw, 0, none⟩) m m) (.int .i64 n) (.slice (some ⟨gs, 0, none⟩) N N))
  words : wr.rowIs gw 59 (m * 2) (wordCell T H m)
  slots : wr.rowIs gs 57 (N * 4) (slotCell S)
  r1 : wr.rowIs g 9 N (partTo k (fun j => .string (S j).first) (.string ByteArray.empty))
  r2 : wr.rowIs (g + 1) 42 N (partTo k (fun j => .int .u64 (S j).hash) (.int .u64 0))
  r3 : wr.rowIs (g + 1 + 1) 3 N (partTo k (fun j => .int .i64 (S j).start) (.int .i64 0))
  r4 : wr.rowIs (g + 1 + 1 + 1) 3 N (partTo k (fun j => .int .i64 (S j).count) (.int .i64 0))
  below : Below w.heap.size w wr

theorem Reading.step {w : World} {gt gw gs g m n N : Nat} {T : Nat → ByteArray} {H : Nat → Nat} {S : Nat → Slot} {k : Nat} {wr : World} (h : Reading w gt gw gs g m n N T H S k wr) (h1 : gt < g) (h2 : gw < g) (h3 : gs < g) (hg : w.heap.size ≤ g) :
    Reading w gt gw gs g m n N T H S (k + 1) ((((wr.setCell ⟨g, k, none⟩ (.string (S k).first)).setCell ⟨g + 1, k, none⟩ (.int .u64 (S k).hash)).setCell ⟨g + 1 + 1, k, none⟩ (.int .i64 (S k).start)).setCell ⟨g + 1 + 1 + 1, k, none⟩ (.int .i64 (S k).count)) := by
  generalize e1 : wr.setCell ⟨g, k, none⟩ (.string (S k).first) = w1
  generalize e2 : w1.setCell ⟨g + 1, k, none⟩ (.int .u64 (S k).hash) = w2
  generalize e3 : w2.setCell ⟨g + 1 + 1, k, none⟩ (.int .i64 (S k).start) = w3
  generalize e4 : w3.setCell ⟨g + 1 + 1 + 1, k, none⟩ (.int .i64 (S k).count) = w4
  have b1 : ∀ x, x ≠ g → w1.heap[x]? = wr.heap[x]? := fun x hx => by rw [← e1]; exact Below.heap_setCell _ _ _ _ hx
  have b2 : ∀ x, x ≠ g + 1 → w2.heap[x]? = w1.heap[x]? := fun x hx => by rw [← e2]; exact Below.heap_setCell _ _ _ _ hx
  have b3 : ∀ x, x ≠ g + 1 + 1 → w3.heap[x]? = w2.heap[x]? := fun x hx => by rw [← e3]; exact Below.heap_setCell _ _ _ _ hx
  have b4 : ∀ x, x ≠ g + 1 + 1 + 1 → w4.heap[x]? = w3.heap[x]? := fun x hx => by rw [← e4]; exact Below.heap_setCell _ _ _ _ hx
  have s1 : w1.rowIs g 9 N (partTo (k + 1) (fun j => .string (S j).first) (.string ByteArray.empty)) := by rw [← e1]; exact part_step h.r1
  have s2 : w2.rowIs (g + 1) 42 N (partTo (k + 1) (fun j => .int .u64 (S j).hash) (.int .u64 0)) := by rw [← e2]; exact part_step (h.r2.of_block (b1 _ (by omega)))
  have s3 : w3.rowIs (g + 1 + 1) 3 N (partTo (k + 1) (fun j => .int .i64 (S j).start) (.int .i64 0)) := by rw [← e3]; exact part_step (h.r3.of_block ((b2 _ (by omega)).trans (b1 _ (by omega))))
  have s4 : w4.rowIs (g + 1 + 1 + 1) 3 N (partTo (k + 1) (fun j => .int .i64 (S j).count) (.int .i64 0)) := by rw [← e4]; exact part_step (h.r4.of_block ((b3 _ (by omega)).trans ((b2 _ (by omega)).trans (b1 _ (by omega)))))
  have so : ∀ x, x < g → w4.heap[x]? = wr.heap[x]? := fun x hx => (b4 x (by omega)).trans ((b3 x (by omega)).trans ((b2 x (by omega)).trans (b1 x (by omega))))
  refine ⟨h.cnt.of_block (so _ h1), h.words.of_block (so _ h2), h.slots.of_block (so _ h3), s1.of_block ((b4 _ (by omega)).trans ((b3 _ (by omega)).trans (b2 _ (by omega)))), s2.of_block ((b4 _ (by omega)).trans (b3 _ (by omega))), s3.of_block (b4 _ (by omega)), s4, ?_⟩
  rw [← e4, ← e3, ← e2, ← e1]
  exact (((h.below.setCell (p := ⟨g, k, none⟩) hg _).setCell (p := ⟨g + 1, k, none⟩) (Nat.le_trans hg (Nat.le_add_right _ _)) _).setCell (p := ⟨g + 1 + 1, k, none⟩) (by show w.heap.size ≤ g + 1 + 1; omega) _).setCell (p := ⟨g + 1 + 1 + 1, k, none⟩) (by show w.heap.size ≤ g + 1 + 1 + 1; omega) _

theorem Reading.start {w w1 w2 : World} {gt gw gs m n N k : Nat} {T : Nat → ByteArray} {H : Nat → Nat} {S : Nat → Slot} (C : Counted w1 gt gw gs m n N T H S k w2) (hb : Below w.heap.size w w2) :
    Reading w gt gw gs w2.heap.size m n N T H S 0 ((((w2.alloc (.cells (madeCells #[.string ByteArray.empty] N) 9)).alloc (.cells (madeCells #[.int .u64 0] N) 42)).alloc (.cells (madeCells #[.int .i64 0] N) 3)).alloc (.cells (madeCells #[.int .i64 0] N) 3)) := by
  have z1 : (w2.alloc (.cells (madeCells #[.string ByteArray.empty] N) 9)).heap.size = w2.heap.size + 1 := by simp
  have z2 : ((w2.alloc (.cells (madeCells #[.string ByteArray.empty] N) 9)).alloc (.cells (madeCells #[.int .u64 0] N) 42)).heap.size = w2.heap.size + 1 + 1 := by simp
  have z3 : (((w2.alloc (.cells (madeCells #[.string ByteArray.empty] N) 9)).alloc (.cells (madeCells #[.int .u64 0] N) 42)).alloc (.cells (madeCells #[.int .i64 0] N) 3)).heap.size = w2.heap.size + 1 + 1 + 1 := by simp
  have p1 := part_made w2 (.string ByteArray.empty) N 9 (fun j => .string (S j).first)
  have p2 := part_made (w2.alloc (.cells (madeCells #[.string ByteArray.empty] N) 9)) (.int .u64 0) N 42 (fun j => .int .u64 (S j).hash)
  have p3 := part_made ((w2.alloc (.cells (madeCells #[.string ByteArray.empty] N) 9)).alloc (.cells (madeCells #[.int .u64 0] N) 42)) (.int .i64 0) N 3 (fun j => .int .i64 (S j).start)
  have p4 := part_made (((w2.alloc (.cells (madeCells #[.string ByteArray.empty] N) 9)).alloc (.cells (madeCells #[.int .u64 0] N) 42)).alloc (.cells (madeCells #[.int .i64 0] N) 3)) (.int .i64 0) N 3 (fun j => .int .i64 (S j).count)
  rw [z1] at p2
  rw [z2] at p3
  rw [z3] at p4
  have hs := hb.size
  exact ⟨(((C.cnt.alloc _).alloc _).alloc _).alloc _, (((C.words.alloc _).alloc _).alloc _).alloc _, (((C.slots.alloc _).alloc _).alloc _).alloc _, ((p1.alloc _).alloc _).alloc _, (p2.alloc _).alloc _, p3.alloc _, p4,
    (((hb.alloc hs _).alloc (by rw [z1]; omega) _).alloc (by rw [z2]; omega) _).alloc (by rw [z3]; omega) _⟩

theorem alloc_some {w : World} {a : Addr} {v : Value} (h : w.cell? a = some v) (o : Obj) : (w.alloc o).cell? a = some v := below_some ((Below.refl w.heap.size w).alloc (Nat.le_refl _) o) h

/-- WHAT 'ZZResetCounts' HANDS BACK. -/
structure Rows6 (m n N : Nat) (T : Nat → ByteArray) (H : Nat → Nat) (S : Nat → Slot) (g1 g2 g3 g4 g5 g6 : Nat) (w' : World) : Prop where
  sized : Sized (gramsOf m n) N
  inv : Inv T H n N (gramsOf m n) S
  r1 : w'.rowIs g1 9 N (fun j => .string (S j).first)
  r2 : w'.rowIs g2 42 N (fun j => .int .u64 (S j).hash)
  r3 : w'.rowIs g3 3 N (fun j => .int .i64 (S j).start)
  r4 : w'.rowIs g4 3 N (fun j => .int .i64 (S j).count)
  r5 : w'.rowIs g5 9 m (fun j => .string (T j))
  r6 : w'.rowIs g6 42 m (fun j => .int .u64 (H j))

def ReadOut (m n : Nat) (T : Nat → ByteArray) (H : Nat → Nat) (w : World) (e : Ending) (w' : World) : Prop :=
  ∃ N S g1 g2 g3 g4 g5 g6, e = .returned (.tuple #[.slice (some ⟨g1, 0, none⟩) N N, .slice (some ⟨g2, 0, none⟩) N N, .slice (some ⟨g3, 0, none⟩) N N, .slice (some ⟨g4, 0, none⟩) N N, .int .i64 n, .slice (some ⟨g5, 0, none⟩) m m, .slice (some ⟨g6, 0, none⟩) m m]) ∧
    Rows6 m n N T H S g1 g2 g3 g4 g5 g6 w' ∧ Below w.heap.size w w'

theorem part2_step {w wr : World} {m k : Nat} {T : Nat → ByteArray} {H : Nat → Nat} (hb : Below w.heap.size w wr) (r5 : wr.rowIs w.heap.size 9 m (partTo k (fun j => .string (T j)) (.string ByteArray.empty))) (r6 : wr.rowIs (w.heap.size + 1) 42 m (partTo k (fun j => .int .u64 (H j)) (.int .u64 0))) :
    Below w.heap.size w ((wr.setCell ⟨w.heap.size, k, none⟩ (.string (T k))).setCell ⟨w.heap.size + 1, k, none⟩ (.int .u64 (H k))) ∧
    ((wr.setCell ⟨w.heap.size, k, none⟩ (.string (T k))).setCell ⟨w.heap.size + 1, k, none⟩ (.int .u64 (H k))).rowIs w.heap.size 9 m (partTo (k + 1) (fun j => .string (T j)) (.string ByteArray.empty)) ∧
    ((wr.setCell ⟨w.heap.size, k, none⟩ (.string (T k))).setCell ⟨w.heap.size + 1, k, none⟩ (.int .u64 (H k))).rowIs (w.heap.size + 1) 42 m (partTo (k + 1) (fun j => .int .u64 (H j)) (.int .u64 0)) := by
  generalize e1 : wr.setCell ⟨w.heap.size, k, none⟩ (.string (T k)) = w1
  generalize e2 : w1.setCell ⟨w.heap.size + 1, k, none⟩ (.int .u64 (H k)) = w2
  have b1 : ∀ x, x ≠ w.heap.size → w1.heap[x]? = wr.heap[x]? := fun x hx => by rw [← e1]; exact Below.heap_setCell _ _ _ _ hx
  have b2 : ∀ x, x ≠ w.heap.size + 1 → w2.heap[x]? = w1.heap[x]? := fun x hx => by rw [← e2]; exact Below.heap_setCell _ _ _ _ hx
  have s1 : w1.rowIs w.heap.size 9 m (partTo (k + 1) (fun j => .string (T j)) (.string ByteArray.empty)) := by rw [← e1]; exact part_step r5
  have s2 : w2.rowIs (w.heap.size + 1) 42 m (partTo (k + 1) (fun j => .int .u64 (H j)) (.int .u64 0)) := by rw [← e2]; exact part_step (r6.of_block (b1 _ (by omega)))
  refine ⟨?_, s1.of_block (b2 _ (by omega)), s2⟩
  rw [← e2, ← e1]
  exact (hb.setCell (p := ⟨w.heap.size, k, none⟩) (Nat.le_refl _) _).setCell (p := ⟨w.heap.size + 1, k, none⟩) (Nat.le_succ _) _

set_option maxHeartbeats 2000000 in
theorem read_any (a a2 : Option Addr) (b off b2 off2 m n c c2 : Nat) (T : Nat → ByteArray) (H : Nat → Nat) (w : World) (hm : m ≤ 1024) (h1 : 1 ≤ n) (hn : n ≤ 9223372036854775807)
    (ha : 0 < m → a = some ⟨b, off, none⟩) (ha2 : 0 < m → a2 = some ⟨b2, off2, none⟩)
    (hc : ∀ k, k < m → w.cell? ⟨b, off + k, none⟩ = some (.string (T k))) (hc2 : ∀ k, k < m → w.cell? ⟨b2, off2 + k, none⟩ = some (.int .u64 (H k)))
    (hH : ∀ k, k < m → H k < 18446744073709551616) (hTx : ∀ i, i < gramsOf m n → (T i).toList.isEmpty = false) :
    Calls Try.prog 29 #[.slice a m c, .slice a2 m c2, .int .i64 n] w fun e w' => ReadOut m n T H w e w' := by
  go_enter Try.func29, Try.ntmps29
  go_wp2_with fail
  refine (zzWords_any _ _ b off b2 off2 m c m c2 T H _ (by omega) (Nat.le_refl _) (by omega) ha ha2 (fun k hk => below_some ((Below.refl w.heap.size w).alloc (Nat.le_refl _) _) (hc k hk)) (fun k hk => below_some ((Below.refl w.heap.size w).alloc (Nat.le_refl _) _) (hc2 k hk))).mono ?_
  rintro e w1 ⟨rfl, hr1, hb1⟩
  have hsz : (w.alloc (Obj.cells #[Value.slice none 0 0, Value.int IntKind.i64 0, Value.slice none 0 0] 53)).heap.size = w.heap.size + 1 := by simp
  rw [hsz] at hr1 hb1
  have hT : w1.rowIs w.heap.size 53 3 (cntCell (.slice none 0 0) (.int .i64 0) (.slice none 0 0)) :=
    below_row hb1 (World.rowIs_alloc w #[Value.slice none 0 0, Value.int IntKind.i64 0, Value.slice none 0 0] 53 (cntCell (.slice none 0 0) (.int .i64 0) (.slice none 0 0)) (fun i hi => by
      rcases (show i = 0 ∨ i = 1 ∨ i = 2 by simp at hi; omega) with rfl | rfl | rfl <;> rfl)) (by omega)
  have hB1 : Below w.heap.size w w1 := ((Below.refl w.heap.size w).alloc (Nat.le_refl _) _).trans (hb1.mono (by omega))
  clear hc hc2 hb1 hsz ha ha2
  go_wp2_with fail
  refine (reset_any w.heap.size (w.heap.size + 1) m n T H _ hm h1 hn hT hr1 (by omega) hH hTx).mono ?_
  rintro e w2 ⟨rfl, N, gs, S, SZ, C⟩
  have hB2 : Below w.heap.size w w2 := hB1.grown C.grown hB1.size (fun k hk => by obtain rfl := Option.some.inj hk; exact Nat.le_refl _)
  have hlt1 : w.heap.size < w2.heap.size := C.cnt.lt
  have hlt2 : w.heap.size + 1 < w2.heap.size := C.words.lt
  have hlt3 : gs < w2.heap.size := C.slots.lt
  have t0 := C.mem.t0
  have t1 := C.mem.t1
  have t2 := C.mem.t2
  have n8 := SZ.eight
  have nle := SZ.le
  have hg0 := C.new
  have hg1 := hr1.lt
  clear hT hr1 hB1
  have mk9 := run_make_row' (P := Try.prog) 31 9 (.string ByteArray.empty) 16 Try.underlying31 info9 rfl .i64 .i64 N (by omega) (by omega)
  have mk42 := run_make_row' (P := Try.prog) 32 42 (.int .u64 0) 8 Try.underlying32 info42 rfl .i64 .i64 N (by omega) (by omega)
  have mk3 := run_make_row' (P := Try.prog) 39 3 (.int .i64 0) 8 Try.underlying39 info3 rfl .i64 .i64 N (by omega) (by omega)
  have t2a := fun o1 => alloc_some t2 o1
  have t2b := fun o1 o2 => alloc_some (t2a o1) o2
  have t2c := fun o1 o2 o3 => alloc_some (t2b o1 o2) o3
  have t2d := fun o1 o2 o3 o4 => alloc_some (t2c o1 o2 o3) o4
  go_wp2
  clear t2a t2b t2c t2d t0 t1 t2
  go_loopw [40] (fun i wr => ∃ k : Nat, k ≤ N ∧ i = .int .i64 k ∧ Reading w w.heap.size (w.heap.size + 1) gs w2.heap.size m n N T H S k wr) (fun i _ => N - (intOf i).toNat)
  case atStart => exact ⟨0, Nat.zero_le _, rfl, Reading.start C hB2⟩
  case round =>
    obtain ⟨k, hk, rfl, R⟩ := hrel
    by_cases hlt : k < N
    · have t2 : wr.cell? ⟨w.heap.size, 2, none⟩ = some (.slice (some ⟨gs, 0, none⟩) N N) := R.cnt.cell (i := 2) (by omega)
      have s0 := slotCell_0 R.slots hlt
      have s1 := slotCell_1 R.slots hlt
      have s2 := slotCell_2 R.slots hlt
      have s3 := slotCell_3 R.slots hlt
      have d1 := R.r1.cell hlt
      have d2 := R.r2.cell hlt
      have d3 := R.r3.cell hlt
      have d4 := R.r4.cell hlt
      have f1 := R.r1.frozen k
      have f2 := R.r2.frozen k
      have f3 := R.r3.frozen k
      have f4 := R.r4.frozen k
      have HR : Hid _ := R.step hlt1 hlt2 hlt3 (by omega)
      clear R C SZ
      go_wp2
      go_roundw
      case rel => exact ⟨k + 1, by omega, by go_num, HR.out⟩
      case measure => simp [intOf]; omega
    · obtain rfl : k = N := by omega
      obtain ⟨wo, rfl⟩ : ∃ wo : World, wo = wr := ⟨_, rfl⟩
      have t0 : wo.cell? ⟨w.heap.size, 0, none⟩ = some (.slice (some ⟨w.heap.size + 1, 0, none⟩) m m) := R.cnt.cell (i := 0) (by omega)
      have t0a := fun o1 => alloc_some t0 o1
      have t0b := fun o1 o2 => alloc_some (t0a o1) o2
      clear mk9 mk42 mk3
      have mk9 := run_make_row' (P := Try.prog) 31 9 (.string ByteArray.empty) 16 Try.underlying31 info9 rfl .i64 .i64 m (by omega) (by omega)
      have mk42 := run_make_row' (P := Try.prog) 32 42 (.int .u64 0) 8 Try.underlying32 info42 rfl .i64 .i64 m (by omega) (by omega)
      have HI : Hid (Inv T H n k (gramsOf m n) S) := C.inv
      have HSZ : Hid (Sized (gramsOf m n) k) := SZ
      clear C SZ
      go_wp2
      clear mk9 mk42 t0 t0a t0b
      go_loopw [91] (fun i wr => ∃ q : Nat, q ≤ m ∧ i = .int .i64 q ∧ Below wo.heap.size wo wr ∧ wr.rowIs wo.heap.size 9 m (partTo q (fun j => .string (T j)) (.string ByteArray.empty)) ∧ wr.rowIs (wo.heap.size + 1) 42 m (partTo q (fun j => .int .u64 (H j)) (.int .u64 0))) (fun i _ => m - (intOf i).toNat)
      case atStart =>
        have z1 : (wo.alloc (.cells (madeCells #[.string ByteArray.empty] m) 9)).heap.size = wo.heap.size + 1 := by simp
        have p2 := part_made (wo.alloc (.cells (madeCells #[.string ByteArray.empty] m) 9)) (.int .u64 0) m 42 (fun j => .int .u64 (H j))
        rw [z1] at p2
        exact ⟨0, Nat.zero_le _, rfl, ((Below.refl _ _).alloc (Nat.le_refl _) _).alloc (by rw [z1]; omega) _, (part_made wo (.string ByteArray.empty) m 9 (fun j => .string (T j))).alloc _, p2⟩
      case round =>
        obtain ⟨q, hq, rfl, hb, r5, r6⟩ := hrel
        have R' := below_row hb R.cnt R.cnt.lt
        have hlt4 := R.cnt.lt
        have hlt5 := R.words.lt
        by_cases hlq : q < m
        · have t0 : wr.cell? ⟨w.heap.size, 0, none⟩ = some (.slice (some ⟨w.heap.size + 1, 0, none⟩) m m) := R'.cell (i := 0) (by omega)
          have hw := below_row hb R.words R.words.lt
          have x0 := Worded.text hw hlq
          have x1 := Worded.hash hw hlq
          have d1 := r5.cell hlq
          have d2 := r6.cell hlq
          have f1 := r5.frozen q
          have f2 := r6.frozen q
          have HP : Hid _ := part2_step hb r5 r6
          clear R' hw r5 r6 hb R
          go_wp2
          go_roundw
          case rel => exact ⟨q + 1, by omega, by go_num, HP.out.1, HP.out.2.1, HP.out.2.2⟩
          case measure => simp [intOf]; omega
        · obtain rfl : q = m := by omega
          have t1 : wr.cell? ⟨w.heap.size, 1, none⟩ = some (.int .i64 n) := R'.cell (i := 1) (by omega)
          have HF : Hid (Rows6 q n k T H S w2.heap.size (w2.heap.size + 1) (w2.heap.size + 1 + 1) (w2.heap.size + 1 + 1 + 1) wo.heap.size (wo.heap.size + 1) wr) :=
            ⟨HSZ.out, HI.out, part_full (below_row hb R.r1 R.r1.lt), part_full (below_row hb R.r2 R.r2.lt), part_full (below_row hb R.r3 R.r3.lt), part_full (below_row hb R.r4 R.r4.lt), part_full r5, part_full r6⟩
          have HB : Hid (Below w.heap.size w wr) := R.below.trans (hb.mono R.below.size)
          clear R' r5 r6 hb R
          go_wp2
          go_big_quiet (fail)
          go_wp2
          refine bodyPost_ret (v := .tuple #[.slice (some ⟨w2.heap.size, 0, none⟩) k k, .slice (some ⟨w2.heap.size + 1, 0, none⟩) k k, .slice (some ⟨w2.heap.size + 1 + 1, 0, none⟩) k k, .slice (some ⟨w2.heap.size + 1 + 1 + 1, 0, none⟩) k k, .int .i64 n, .slice (some ⟨wo.heap.size, 0, none⟩) q q, .slice (some ⟨wo.heap.size + 1, 0, none⟩) q q]) (by simp [results, Try.results29, go_sem]) rfl ?_
          have HF' := HF.out
          exact ⟨k, S, _, _, _, _, _, _, rfl, ⟨HF'.sized, HF'.inv, HF'.r1, HF'.r2, HF'.r3, HF'.r4, HF'.r5, HF'.r6⟩, below_q HB.out _⟩
end Go.Proofs.Qxb6602115a
