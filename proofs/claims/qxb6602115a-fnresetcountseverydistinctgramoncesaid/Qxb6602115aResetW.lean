import Derived.Test.Qxb6602115aReset
namespace Go.Proofs.Qxb6602115a
open Go.RowKit
open Pl
attribute [local go_sem ↓] Go.wp_at_zero Go.wp_at_succ

/-- How many grams of n words there are among m. -/
def gramsOf (m n : Nat) : Nat := if n ≤ m then m - n + 1 else 0

/-- The table's size. -/
structure Sized (G N : Nat) : Prop where
  pow : ∃ e, N = 2 ^ e
  eight : 8 ≤ N
  le : N ≤ 4096
  twice : 2 * G ≤ N
  tight : N = 8 ∨ N < 4 * G

/-- WHAT reset LEAVES. -/
structure Counted (w : World) (gt gw gs m n N : Nat) (T : Nat → ByteArray) (H : Nat → Nat) (S : Nat → Slot) (k : Nat) (w' : World) : Prop where
  cnt : w'.rowIs gt 53 3 (cntCell (.slice (some ⟨gw, 0, none⟩) m m) (.int .i64 n) (.slice (some ⟨gs, 0, none⟩) N N))
  words : w'.rowIs gw 59 (m * 2) (wordCell T H m)
  slots : w'.rowIs gs 57 (N * 4) (slotCell S)
  inv : Inv T H n N k S
  grown : w.grownBy w' (some gt)
  new : w.heap.size ≤ gs

theorem Counted.mem {w w' : World} {gt gw gs m n N k : Nat} {T : Nat → ByteArray} {H : Nat → Nat} {S : Nat → Slot} (h : Counted w gt gw gs m n N T H S k w') : Mem w' gt gw gs m n N T H S :=
  ⟨h.cnt.cell (i := 0) (by omega), h.cnt.cell (i := 1) (by omega), h.cnt.cell (i := 2) (by omega), fun _ hj => Worded.text h.words hj, fun _ hj => Worded.hash h.words hj,
    fun _ hj => slotCell_0 h.slots hj, fun _ hj => slotCell_1 h.slots hj, fun _ hj => slotCell_2 h.slots hj, fun _ hj => slotCell_3 h.slots hj⟩

theorem Counted.start {w : World} {gt gw m n N : Nat} {T : Nat → ByteArray} {H : Nat → Nat} (hT : w.rowIs gt 53 3 (cntCell (.slice none 0 0) (.int .i64 0) (.slice none 0 0))) (hW : w.rowIs gw 59 (m * 2) (wordCell T H m)) (hne : gt ≠ gw) :
    Counted w gt gw w.heap.size m n N T H (fun _ => ⟨ByteArray.empty, 0, 0, 0⟩) 0
      (((((w.setCell ⟨gt, 2, none⟩ (.slice (some ⟨w.heap.size, 0, none⟩) N N)).setCell ⟨gt, 2, none⟩ (.slice (some ⟨w.heap.size, 0, none⟩) N N)).setCell ⟨gt, 0, none⟩ (.slice (some ⟨gw, 0, none⟩) m m)).setCell ⟨gt, 1, none⟩ (.int .i64 n)).alloc
        (.cells (madeCells #[.string ByteArray.empty, .int .u64 0, .int .i64 0, .int .i64 0] (N * 4)) 57)) := by
  have hlt := hT.lt
  refine ⟨?_, ?_, ?_, Inv.start _ _ _ _, ⟨rfl, rfl, rfl, ?_, ?_⟩, Nat.le_refl _⟩
  · refine World.rowIs.alloc (World.rowIs.congr ((((hT.set 2 _).set 2 _).set 0 _).set 1 _) fun i hi => ?_) _
    rcases (show i = 0 ∨ i = 1 ∨ i = 2 by omega) with rfl | rfl | rfl <;> rfl
  · exact World.rowIs.alloc ((((hW.setOther (a := ⟨gt, 2, none⟩) (Ne.symm hne) _).setOther (a := ⟨gt, 2, none⟩) (Ne.symm hne) _).setOther (a := ⟨gt, 0, none⟩) (Ne.symm hne) _).setOther (a := ⟨gt, 1, none⟩) (Ne.symm hne) _) _
  · have h := slotCell_made N ((((w.setCell ⟨gt, 2, none⟩ (.slice (some ⟨w.heap.size, 0, none⟩) N N)).setCell ⟨gt, 2, none⟩ (.slice (some ⟨w.heap.size, 0, none⟩) N N)).setCell ⟨gt, 0, none⟩ (.slice (some ⟨gw, 0, none⟩) m m)).setCell ⟨gt, 1, none⟩ (.int .i64 n))
    have e : ((((w.setCell ⟨gt, 2, none⟩ (.slice (some ⟨w.heap.size, 0, none⟩) N N)).setCell ⟨gt, 2, none⟩ (.slice (some ⟨w.heap.size, 0, none⟩) N N)).setCell ⟨gt, 0, none⟩ (.slice (some ⟨gw, 0, none⟩) m m)).setCell ⟨gt, 1, none⟩ (.int .i64 n)).heap.size = w.heap.size := by simp [World.setCell]
    rw [e] at h
    exact h
  · simp [World.setCell]
  · intro k hk hkg
    have hkg' : k ≠ gt := fun e => hkg (by rw [e])
    rw [Below.heap_alloc _ _ _ (by simpa [World.setCell] using hk), Below.heap_setCell _ _ _ _ hkg', Below.heap_setCell _ _ _ _ hkg', Below.heap_setCell _ _ _ _ hkg', Below.heap_setCell _ _ _ _ hkg']

theorem ghash_eq (F : Nat → Nat) : ∀ (k : Nat), (∀ j, j ≤ k → F j < 18446744073709551616) → ghash (fun j => (F j : Int)) k = (ghN F k : Int)
  | 0, _ => rfl
  | k + 1, h => by
    show bits .xor .u64 (IntKind.u64.wrap (ghash (fun j => (F j : Int)) k * 11400714819323198485)) ((F (k + 1) : Nat) : Int) = _
    rw [ghash_eq F k (fun j hj => h j (by omega)), IntKind.wrap_u64, show ((ghN F k : Int) * 11400714819323198485 % 18446744073709551616) = ((ghN F k * 11400714819323198485 % 18446744073709551616 : Nat) : Int) by omega,
      bits_xor_u64_nat _ _ (Nat.mod_lt _ (by omega)) (h (k + 1) (Nat.le_refl _))]
    rfl

theorem cnt_le (T : Nat → ByteArray) (H : Nat → Nat) (n p : Nat) : ∀ i, Pl.cnt T H n p i ≤ i
  | 0 => Nat.le_refl _
  | i + 1 => by have := cnt_le T H n p i; rw [cnt_succ]; split <;> omega

/-- A world behind which nothing that was there has turned. -/
theorem Counted.below {w w1 w2 : World} {gt gw gs m n N k : Nat} {T : Nat → ByteArray} {H : Nat → Nat} {S : Nat → Slot} (h : Counted w gt gw gs m n N T H S k w1) (hb : Below w1.heap.size w1 w2) : Counted w gt gw gs m n N T H S k w2 :=
  ⟨below_row hb h.cnt h.cnt.lt, below_row hb h.words h.words.lt, below_row hb h.slots h.slots.lt, h.inv,
    ⟨hb.os.trans h.grown.os, hb.tape.trans h.grown.tape, hb.output.trans h.grown.output, Nat.le_trans h.grown.size hb.size, fun j hj hne => (hb.block j (by have := h.grown.size; omega)).trans (h.grown.block j hj hne)⟩, h.new⟩

/-- A world that parts from it in the table alone. -/
theorem Counted.turn {w w1 w2 : World} {gt gw gs m n N k k' : Nat} {T : Nat → ByteArray} {H : Nat → Nat} {S S' : Nat → Slot} (h : Counted w gt gw gs m n N T H S k w1) (ho : Only gs w1 w2)
    (hs : w2.rowIs gs 57 (N * 4) (slotCell S')) (hi : Inv T H n N k' S') (h1 : gt < w.heap.size) (h2 : gw < w.heap.size) : Counted w gt gw gs m n N T H S' k' w2 := by
  have hnew := h.new
  exact ⟨ho.row h.cnt (by omega), ho.row h.words (by omega), hs, hi,
    ⟨ho.os.trans h.grown.os, ho.tape.trans h.grown.tape, ho.output.trans h.grown.output, by rw [ho.size]; exact h.grown.size, fun j hj hne => (ho.block j (by omega)).trans (h.grown.block j hj hne)⟩, h.new⟩

set_option maxHeartbeats 1000000 in
theorem reset_some (gt gw m n : Nat) (T : Nat → ByteArray) (H : Nat → Nat) (w : World) (hm : m ≤ 1024) (h1 : 1 ≤ n) (hn : n ≤ 9223372036854775807) (hnm : n ≤ m)
    (hT : w.rowIs gt 53 3 (cntCell (.slice none 0 0) (.int .i64 0) (.slice none 0 0))) (hW : w.rowIs gw 59 (m * 2) (wordCell T H m)) (hne : gt ≠ gw) (hH : ∀ k, k < m → H k < 18446744073709551616)
    (hTx : ∀ i, i < gramsOf m n → (T i).toList.isEmpty = false) :
    Calls Try.prog 41 #[.pointer (some ⟨gt, 0, none⟩), .slice (some ⟨gw, 0, none⟩) m m, .int .i64 n] w fun e w' => e = .returned (.tuple #[]) ∧ ∃ N gs S, Sized (gramsOf m n) N ∧ Counted w gt gw gs m n N T H S (gramsOf m n) w' := by
  have c0 : w.cell? ⟨gt, 0, none⟩ = some (.slice none 0 0) := hT.cell (i := 0) (by omega)
  have c1 : w.cell? ⟨gt, 1, none⟩ = some (.int .i64 0) := hT.cell (i := 1) (by omega)
  have c2 : w.cell? ⟨gt, 2, none⟩ = some (.slice none 0 0) := hT.cell (i := 2) (by omega)
  have f0 := hT.frozen 0
  have f1 := hT.frozen 1
  have f2 := hT.frozen 2
  have hlt := hT.lt
  have eG : gramsOf m n = m - n + 1 := if_pos hnm
  obtain ⟨G, hG⟩ : ∃ G, G = m - n + 1 := ⟨_, rfl⟩
  have HG : Hid (gramsOf m n = G) := eG.trans hG.symm
  have eI : (m : Int) - (n : Int) + 1 = (G : Int) := by omega
  have HGm : Hid (G + n = m + 1) := (by omega : G + n = m + 1)
  clear eG hG
  go_enter Try.func41, Try.ntmps41
  go_wp2
  have hG1 : G ≤ 1024 := by omega
  clear eI
  go_loop [7] (fun t => ∃ N : Nat, t = .int .i64 N ∧ Hid (∃ e, N = 2 ^ e) ∧ 8 ≤ N ∧ N ≤ 4096 ∧ (N = 8 ∨ N < 4 * G)) (fun t => 4096 - (intOf t).toNat)
  case atStart => exact ⟨8, rfl, (⟨3, rfl⟩ : ∃ e, 8 = 2 ^ e), by omega, by omega, .inl rfl⟩
  case round =>
    obtain ⟨N, rfl, hp, h8, hle, htight⟩ := hrel
    by_cases hlt2 : N < 2 * G
    · have TI : Hid (N = 8 ∨ N < 4 * G) := htight
      clear htight
      go_wp2
      go_round
      case rel => exact ⟨N * 2, by go_num, (by obtain ⟨e, he⟩ := hp.out; exact ⟨e + 1, by rw [he, Nat.pow_succ]⟩ : ∃ e, N * 2 = 2 ^ e), by omega, by omega, .inr (by omega)⟩
      case measure => simp [intOf]; omega
    have SZ : Sized (gramsOf m n) N := by rw [HG.out]; exact ⟨hp.out, h8, hle, by omega, htight⟩
    clear htight hp
    have hmk := make57 N (by omega)
    have jn : (0 : Int) < (N : Int) := by omega
    go_wp2
    clear hmk c0 c1 c2 f0 f1 f2
    have hgw := hW.lt
    have hnb : ((n : Int) == 0) = false := by simp; omega
    go_loopw [54] (fun i wr => ∃ (k : Nat) (S : Nat → Slot), k ≤ G ∧ i = .int .i64 k ∧ Counted w gt gw w.heap.size m n N T H S k wr) (fun i _ => G - (intOf i).toNat)
    case atStart => exact ⟨0, _, Nat.zero_le _, rfl, Counted.start hT hW hne⟩
    case round =>
      obtain ⟨k, S, hk, rfl, C⟩ := hrel
      clear hT hW
      by_cases hlt3 : k < G
      · have hkm : k + n ≤ m := by have := HGm.out; omega
        have nk : ¬ m = k := by omega
        have b1 : (k : Int) + (n : Int) ≤ (m : Int) := by omega
        have hTk : (T k).toList.isEmpty = false := hTx k (by rw [HG.out]; exact hlt3)
        have HTk : Hid ((T k).toList.isEmpty = false) := hTk
        have HHx : Hid (∀ j, j < m → H j < 18446744073709551616) := hH
        clear hTk hTx hH
        have x0 : wr.cell? ⟨gw, k * 2, none⟩ = some (.string (T k)) := C.mem.text k (by omega)
        go_wp2_with fail
        refine (gramHash_any gw (k * 2) n (m - k) (fun j => T (k + j)) (fun j => (H (k + j) : Int)) _ h1 (by omega) (by omega) (fun j hj => ?_)).mono ?_
        · have e1 := C.mem.text (k + j) (by omega)
          have e2 := C.mem.hash (k + j) (by omega)
          rw [show (k + j) * 2 = k * 2 + j * 2 by omega] at e1 e2
          exact ⟨e1, e2⟩
        rintro e w1 ⟨rfl, hb1⟩
        rw [ghash_eq (fun j => H (k + j)) (n - 1) (fun j hj => HHx.out (k + j) (by omega)), show ghN (fun j => H (k + j)) (n - 1) = gh H n k from rfl]
        have hgh : gh H n k < 18446744073709551616 := ghN_lt (fun j hj => HHx.out (k + j) (by omega))
        replace C := C.below hb1
        replace x0 := below_some hb1 x0
        clear hb1
        have hSZ := SZ.twice
        rw [HG.out] at hSZ
        obtain ⟨D, hD, ht, hno⟩ := C.inv.probe (by omega) (gh H n k)
        have HT : Hid _ := ht
        have HNO : Hid _ := hno
        clear ht hno
        go_wp2_with fail
        refine (slot_any gt gw w.heap.size m n N k (gh H n k) D T H S _ C.mem (by obtain ⟨e, he⟩ := SZ.pow; exact masks_pow e N he (by omega)) h8 (by omega) hgh h1 (by omega) hm (fun j hj => ?_) HT.out HNO.out).mono ?_
        · cases hf : (S j).free
          · have := (C.inv.taken j hj hf).lt; omega
          · rw [C.inv.empty j hj hf]; show 0 + n ≤ m; omega
        rintro e w2 ⟨rfl, hb2⟩
        replace C := C.below hb2
        replace x0 := below_some hb2 x0
        clear hb2
        have ha : (gh H n k + D) % N < N := Nat.mod_lt _ (by omega)
        cases hf : (S ((gh H n k + D) % N)).free
        · have HI := C.inv.again (m := m) h1 HHx.out hkm hD hf HT.out HNO.out
          have hcnt : (S ((gh H n k + D) % N)).count ≤ 1024 := by
            have t := C.inv.taken _ ha hf
            rw [t.count]
            exact Nat.le_trans (cnt_le _ _ _ _ _) (by omega)
          clear HT HNO
          generalize (gh H n k + D) % N = a at *
          have s0 := slotCell_0 C.slots ha
          have s3 := slotCell_3 C.slots ha
          have fr := C.slots.frozen (a * 4 + 3)
          have hfe : (S a).first.toList.isEmpty = false := hf
          have HR := slotCell_count (a := a) C.slots ((S a).count + 1)
          have HC := C.turn ((Only.refl _ _).setCell _ _) HR HI hlt hgw
          have HCC : Hid _ := HC
          clear HR HI HC hf C
          go_wp2
          go_roundw
          case rel => exact ⟨k + 1, _, by omega, by go_num, HCC.out⟩
          case measure => simp [intOf]; omega
        · have HI := C.inv.lay (m := m) h1 HHx.out hkm hD HTk.out hf HNO.out
          clear HT HNO
          generalize (gh H n k + D) % N = a at *
          have s0 := slotCell_0 C.slots ha
          have s1 := slotCell_1 C.slots ha
          have s2 := slotCell_2 C.slots ha
          have s3 := slotCell_3 C.slots ha
          have fr0 := C.slots.frozen (a * 4)
          have fr1 := C.slots.frozen (a * 4 + 1)
          have fr2 := C.slots.frozen (a * 4 + 2)
          have fr3 := C.slots.frozen (a * 4 + 3)
          have hfe : (S a).first.toList.isEmpty = true := hf
          have i0 : (0 : Int) < (n : Int) := by omega
          have HR := slotCell_put (a := a) C.slots (T k) (gh H n k) k
          have HCC : Hid _ := C.turn ((((((Only.refl _ _).setCell _ _).setCell _ _).setCell _ _).setCell _ _).setCell _ _) HR HI hlt hgw
          clear HR HI hf C
          go_wp2
          go_roundw
          case rel => exact ⟨k + 1, _, by omega, by go_num, HCC.out⟩
          case measure => simp [intOf]; omega
      · obtain rfl : k = G := by omega
        go_wp2
        go_end0
        exact ⟨rfl, N, _, S, SZ, by rw [HG.out]; exact C⟩

set_option maxHeartbeats 1000000 in
/-- .. where there is no gram. -/
theorem reset_none (gt gw m n : Nat) (T : Nat → ByteArray) (H : Nat → Nat) (w : World) (hm : m ≤ 1024) (h1 : 1 ≤ n) (hn : n ≤ 9223372036854775807) (hnm : m < n)
    (hT : w.rowIs gt 53 3 (cntCell (.slice none 0 0) (.int .i64 0) (.slice none 0 0))) (hW : w.rowIs gw 59 (m * 2) (wordCell T H m)) (hne : gt ≠ gw) :
    Calls Try.prog 41 #[.pointer (some ⟨gt, 0, none⟩), .slice (some ⟨gw, 0, none⟩) m m, .int .i64 n] w fun e w' => e = .returned (.tuple #[]) ∧ ∃ N gs S, Sized (gramsOf m n) N ∧ Counted w gt gw gs m n N T H S (gramsOf m n) w' := by
  have c0 : w.cell? ⟨gt, 0, none⟩ = some (.slice none 0 0) := hT.cell (i := 0) (by omega)
  have c1 : w.cell? ⟨gt, 1, none⟩ = some (.int .i64 0) := hT.cell (i := 1) (by omega)
  have c2 : w.cell? ⟨gt, 2, none⟩ = some (.slice none 0 0) := hT.cell (i := 2) (by omega)
  have f0 := hT.frozen 0
  have f1 := hT.frozen 1
  have f2 := hT.frozen 2
  have hlt := hT.lt
  have HG : Hid (gramsOf m n = 0) := (if_neg (by omega) : gramsOf m n = 0)
  have hgw := hW.lt
  by_cases hq : n = m + 1
  · have HQ : Hid (n = m + 1) := hq
    have eI : (m : Int) - (n : Int) + 1 = 0 := by omega
    clear hq
    go_enter Try.func41, Try.ntmps41
    go_wp2
    go_loop [7] (fun t => ∃ N : Nat, t = .int .i64 N ∧ Hid (N = 8) ∧ 8 ≤ N ∧ N ≤ 8) (fun _ => 0)
    case atStart => exact ⟨8, rfl, (rfl : 8 = 8), by omega, by omega⟩
    case round =>
      obtain ⟨N, rfl, hp, h8, hle⟩ := hrel
      have SZ : Sized (gramsOf m n) N := by rw [HG.out, hp.out]; exact ⟨⟨3, rfl⟩, by omega, by omega, by omega, .inl rfl⟩
      have hmk := make57 N (by omega)
      have jn : (0 : Int) < (N : Int) := by omega
      go_wp2
      clear hmk c0 c1 c2 f0 f1 f2
      refine wp_loop_rounds 1 ?_
      rw [rounds_succ]
      have HC := Counted.start (n := n) (N := N) hT hW hne
      go_wp2
      go_end0
      exact ⟨rfl, N, _, _, SZ, by rw [HG.out]; exact HC⟩
  · have eI : (m : Int) - (n : Int) + 1 < 0 := by omega
    clear hq
    go_enter Try.func41, Try.ntmps41
    go_wp2
    go_loop [7] (fun t => ∃ N : Nat, t = .int .i64 N ∧ Hid (N = 8) ∧ 8 ≤ N ∧ N ≤ 8) (fun _ => 0)
    case atStart => exact ⟨8, rfl, (rfl : 8 = 8), by omega, by omega⟩
    case round =>
      obtain ⟨N, rfl, hp, h8, hle⟩ := hrel
      have SZ : Sized (gramsOf m n) N := by rw [HG.out, hp.out]; exact ⟨⟨3, rfl⟩, by omega, by omega, by omega, .inl rfl⟩
      have hmk := make57 N (by omega)
      have jn : (0 : Int) < (N : Int) := by omega
      go_wp2
      clear hmk c0 c1 c2 f0 f1 f2
      refine wp_loop_rounds 1 ?_
      rw [rounds_succ]
      have HC := Counted.start (n := n) (N := N) hT hW hne
      go_wp2
      go_end0
      exact ⟨rfl, N, _, _, SZ, by rw [HG.out]; exact HC⟩

theorem reset_any (gt gw m n : Nat) (T : Nat → ByteArray) (H : Nat → Nat) (w : World) (hm : m ≤ 1024) (h1 : 1 ≤ n) (hn : n ≤ 9223372036854775807)
    (hT : w.rowIs gt 53 3 (cntCell (.slice none 0 0) (.int .i64 0) (.slice none 0 0))) (hW : w.rowIs gw 59 (m * 2) (wordCell T H m)) (hne : gt ≠ gw) (hH : ∀ k, k < m → H k < 18446744073709551616)
    (hTx : ∀ i, i < gramsOf m n → (T i).toList.isEmpty = false) :
    Calls Try.prog 41 #[.pointer (some ⟨gt, 0, none⟩), .slice (some ⟨gw, 0, none⟩) m m, .int .i64 n] w fun e w' => e = .returned (.tuple #[]) ∧ ∃ N gs S, Sized (gramsOf m n) N ∧ Counted w gt gw gs m n N T H S (gramsOf m n) w' := by
  by_cases h : n ≤ m
  · exact reset_some gt gw m n T H w hm h1 hn h hT hW hne hH hTx
  · exact reset_none gt gw m n T H w hm h1 hn (by omega) hT hW hne
end Go.Proofs.Qxb6602115a
