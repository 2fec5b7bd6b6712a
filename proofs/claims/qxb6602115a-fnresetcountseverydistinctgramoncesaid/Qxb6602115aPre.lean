import Derived.Test.Qxb6602115aRead
import Derived.Test.Qxb6602115aClone
namespace Go.Proofs.Qxb6602115a
open Go.RowKit
open Pl

/-- Some bool; the world as it was. -/
def IsBool (w : World) (e : Ending) (w' : World) : Prop := ∃ b : Bool, e = .returned (.bool b) ∧ w' = w

set_option maxHeartbeats 800000 in
theorem bytes33 (a a2 : Option Addr) (b off m c m2 c2 : Nat) (n : Int) (T : Nat → ByteArray) (w : World) (hm : m ≤ 9223372036854775807) (ha : 0 < m → a = some ⟨b, off, none⟩)
    (hc : ∀ k, k < m → w.cell? ⟨b, off + k, none⟩ = some (.string (T k))) :
    Calls Try.prog 33 #[.slice a m c, .slice a2 m2 c2, .int .i64 n] w fun e w' => IsBool w e w' := by
  by_cases h1 : 1048576 < m
  · go_enter Try.func33, Try.ntmps33
    go_wp2
    go_ret
    exact ⟨false, rfl, rfl⟩
  go_enter Try.func33, Try.ntmps33
  go_wp2
  go_loop [7, 8] (fun s i => ∃ (k : Nat) (x : Int), k ≤ m ∧ i = .int .i64 k ∧ s = .int .i64 x) (fun _ i => m - (intOf i).toNat)
  case atStart => exact ⟨0, _, Nat.zero_le _, rfl, rfl⟩
  case round =>
    obtain ⟨k, x, hk, rfl, rfl⟩ := hrel
    by_cases hlt : k < m
    · obtain rfl := ha (by omega)
      have hcell := hc k hlt
      clear hc ha
      go_wp2
      · go_ret
        exact ⟨false, rfl, rfl⟩
      · go_ret
        exact ⟨false, rfl, rfl⟩
      · go_round
        case rel => exact ⟨k + 1, _, by omega, by go_num, rfl⟩
        case measure => simp [intOf]; omega
    · clear hc ha
      go_wp2
      all_goals
        go_ret
        exact ⟨_, rfl, rfl⟩

set_option maxHeartbeats 800000 in
theorem bytes23 (a a2 : Option Addr) (b off m c m2 c2 : Nat) (n : Int) (T : Nat → ByteArray) (w : World) (hm : m ≤ 9223372036854775807) (ha : 0 < m → a = some ⟨b, off, none⟩)
    (hc : ∀ k, k < m → w.cell? ⟨b, off + k, none⟩ = some (.string (T k))) :
    Calls Try.prog 23 #[.slice a m c, .slice a2 m2 c2, .int .i64 n] w fun e w' => IsBool w e w' := by
  by_cases h1 : 1048576 < m
  · go_enter Try.func23, Try.ntmps23
    go_wp2
    go_ret
    exact ⟨false, rfl, rfl⟩
  go_enter Try.func23, Try.ntmps23
  go_wp2
  go_loop [7, 8] (fun s i => ∃ (k : Nat) (x : Int), k ≤ m ∧ i = .int .i64 k ∧ s = .int .i64 x) (fun _ i => m - (intOf i).toNat)
  case atStart => exact ⟨0, _, Nat.zero_le _, rfl, rfl⟩
  case round =>
    obtain ⟨k, x, hk, rfl, rfl⟩ := hrel
    by_cases hlt : k < m
    · obtain rfl := ha (by omega)
      have hcell := hc k hlt
      clear hc ha
      go_wp2
      · go_ret
        exact ⟨false, rfl, rfl⟩
      · go_ret
        exact ⟨false, rfl, rfl⟩
      · go_round
        case rel => exact ⟨k + 1, _, by omega, by go_num, rfl⟩
        case measure => simp [intOf]; omega
    · clear hc ha
      go_wp2
      all_goals
        go_ret
        exact ⟨_, rfl, rfl⟩

set_option maxHeartbeats 800000 in
theorem fit24 (a a2 : Option Addr) (b off m c m2 c2 : Nat) (T : Nat → ByteArray) (w : World) (hm : m ≤ 1024) (hm2 : m2 ≤ 1024) (ha : 0 < m → a = some ⟨b, off, none⟩)
    (hc : ∀ k, k < m → w.cell? ⟨b, off + k, none⟩ = some (.string (T k))) :
    Calls Try.prog 24 #[.slice a m c, .slice a2 m2 c2] w fun e w' => IsBool w e w' := by
  go_enter Try.func24, Try.ntmps24
  go_wp2
  go_loop [5, 6] (fun s i => ∃ (k : Nat) (x : Int), k ≤ m ∧ i = .int .i64 k ∧ s = .int .i64 x) (fun _ i => m - (intOf i).toNat)
  case atStart => exact ⟨0, _, Nat.zero_le _, rfl, rfl⟩
  case round =>
    obtain ⟨k, x, hk, rfl, rfl⟩ := hrel
    by_cases hlt : k < m
    · obtain rfl := ha (by omega)
      have hcell := hc k hlt
      clear hc ha
      go_wp2
      · go_ret
        exact ⟨false, rfl, rfl⟩
      · go_round
        case rel => exact ⟨k + 1, _, by omega, by go_num, rfl⟩
        case measure => simp [intOf]; omega
    · clear hc ha
      go_wp2
      go_ret
      exact ⟨_, rfl, rfl⟩

set_option maxHeartbeats 400000 in
theorem grams25 (m n : Nat) (w : World) (hm : m ≤ 1024) :
    Calls Try.prog 25 #[.int .i64 m, .int .i64 n] w fun e w' => e = .returned (.int .i64 (gramsOf m n)) ∧ w' = w := by
  unfold gramsOf
  by_cases h : n ≤ m
  · rw [if_pos h]
    go_enter Try.func25, Try.ntmps25
    go_wp2
    go_ret
    exact ⟨congrArg (fun x : Int => Ending.returned (.int .i64 x)) (by show (m : Int) - n + 1 = ((m - n + 1 : Nat) : Int); omega), rfl⟩
  · rw [if_neg h]
    go_enter Try.func25, Try.ntmps25
    go_wp2
    go_ret
    exact ⟨rfl, rfl⟩

/-- Whether the first G texts have each a byte. -/
def IsNamed (T : Nat → ByteArray) (G : Nat) (w : World) (e : Ending) (w' : World) : Prop := ∃ b : Bool, e = .returned (.bool b) ∧ w' = w ∧ (b = true → ∀ i, i < G → (T i).toList.isEmpty = false)

set_option maxHeartbeats 400000 in
theorem named26 (a : Option Addr) (b off m c G : Nat) (T : Nat → ByteArray) (w : World) (hm : m ≤ 1024) (hG : G ≤ m) (ha : 0 < m → a = some ⟨b, off, none⟩)
    (hc : ∀ k, k < m → w.cell? ⟨b, off + k, none⟩ = some (.string (T k))) :
    Calls Try.prog 26 #[.slice a m c, .int .i64 G] w fun e w' => IsNamed T G w e w' := by
  go_enter Try.func26, Try.ntmps26
  go_wp2
  go_loop [5] (fun i => ∃ k : Nat, k ≤ G ∧ i = .int .i64 k ∧ Hid (∀ i, i < k → (T i).toList.isEmpty = false)) (fun i => G - (intOf i).toNat)
  case atStart => exact ⟨0, Nat.zero_le _, rfl, fun i h => absurd h (by omega)⟩
  case round =>
    obtain ⟨k, hk, rfl, HN⟩ := hrel
    by_cases hlt : k < G
    · obtain rfl := ha (by omega)
      have hcell := hc k (by omega)
      clear hc ha
      cases he : (T k).toList.isEmpty
      · have HE : Hid ((T k).toList.isEmpty = false) := he
        go_wp2
        go_round
        case rel =>
          refine ⟨k + 1, by omega, by go_num, fun i hi => ?_⟩
          by_cases e : i = k
          · rw [e]; exact HE.out
          · exact HN.out i (by omega)
        case measure => simp [intOf]; omega
      · go_wp2
        go_ret
        exact ⟨false, rfl, rfl, fun h => by cases h⟩
    · obtain rfl : k = G := by omega
      clear hc ha
      go_wp2
      go_ret
      exact ⟨true, rfl, rfl, fun _ => HN.out⟩

theorem size9 : (Try.prog.info? 9).map (·.size) = some 1 := by kernel_rfl
theorem size42 : (Try.prog.info? 42).map (·.size) = some 1 := by kernel_rfl

set_option maxHeartbeats 400000 in
theorem cloneS (a : Option Addr) (b off n c : Nat) (T : Nat → ByteArray) (w : World) (hn : n ≤ 1048576) (hnil : a = none → n = 0 ∧ c = 0) (ha : 0 < n → a = some ⟨b, off, none⟩)
    (hc : ∀ k, k < n → w.cell? ⟨b, off + k, none⟩ = some (.string (T k))) :
    Calls Try.prog 27 #[.slice a n c] w fun e w' => Fresh 9 n (fun k => .string (T k)) w e w' := by
  have q31 : ∀ (w : World) (a : Option Addr) (n c n' c' : Nat), (binOp .eql 31 (.slice a n c) (.slice none n' c')).run Try.prog w = .ok (.bool a.isNone) w := fun w a n c n' c' => Lib.run_eql_slice_nil w _ _ a n c n' c' Try.underlying31
  cases a with
  | none =>
    obtain ⟨rfl, rfl⟩ := hnil rfl
    go_enter Try.func27, Try.ntmps27
    go_wp2
    go_ret
    exact ⟨none, w.heap.size, rfl, fun h => absurd h (by omega), Nat.le_refl _, fun h => absurd h (by omega), Below.refl _ _⟩
  | some ad =>
    have hmk := run_make_row' (P := Try.prog) 31 9 (.string ByteArray.empty) 16 Try.underlying31 info9 rfl .i64 .i64 n (by omega) (by omega)
    go_enter Try.func27, Try.ntmps27
    go_wp2_with (refine wpList_copy_rows rfl (.tmp 9) (.tmp 10) 31 31 rfl 9 Try.underlying31 size9 w.heap.size n n (some ad) n c rfl rfl 9 n _ (World.rowIs_made w (.string ByteArray.empty) n 9) n (Nat.min_self n).symm (Nat.le_refl _) (fun k => .string (T k)) b off ha ?_ (fun _ _ => rfl) ?_)
    · intro k hk
      exact below_some ((Below.refl w.heap.size w).alloc (Nat.le_refl _) _) (hc k hk)
    · intro w1 hrow honly
      go_wp2
      go_ret
      exact ⟨_, _, rfl, fun _ => rfl, Nat.le_refl _, fun _ => hrow.congr (fun i hi => by simp [hi]), honly.below ((Below.refl _ _).alloc (Nat.le_refl _) _) (Nat.le_refl _)⟩

set_option maxHeartbeats 400000 in
theorem cloneU (a : Option Addr) (b off n c : Nat) (H : Nat → Nat) (w : World) (hn : n ≤ 1048576) (hnil : a = none → n = 0 ∧ c = 0) (ha : 0 < n → a = some ⟨b, off, none⟩)
    (hc : ∀ k, k < n → w.cell? ⟨b, off + k, none⟩ = some (.int .u64 (H k))) :
    Calls Try.prog 28 #[.slice a n c] w fun e w' => Fresh 42 n (fun k => .int .u64 (H k)) w e w' := by
  have q32 : ∀ (w : World) (a : Option Addr) (n c n' c' : Nat), (binOp .eql 32 (.slice a n c) (.slice none n' c')).run Try.prog w = .ok (.bool a.isNone) w := fun w a n c n' c' => Lib.run_eql_slice_nil w _ _ a n c n' c' Try.underlying32
  cases a with
  | none =>
    obtain ⟨rfl, rfl⟩ := hnil rfl
    go_enter Try.func28, Try.ntmps28
    go_wp2
    go_ret
    exact ⟨none, w.heap.size, rfl, fun h => absurd h (by omega), Nat.le_refl _, fun h => absurd h (by omega), Below.refl _ _⟩
  | some ad =>
    have hmk := run_make_row' (P := Try.prog) 32 42 (.int .u64 0) 8 Try.underlying32 info42 rfl .i64 .i64 n (by omega) (by omega)
    go_enter Try.func28, Try.ntmps28
    go_wp2_with (refine wpList_copy_rows rfl (.tmp 9) (.tmp 10) 32 32 rfl 42 Try.underlying32 size42 w.heap.size n n (some ad) n c rfl rfl 42 n _ (World.rowIs_made w (.int .u64 0) n 42) n (Nat.min_self n).symm (Nat.le_refl _) (fun k => .int .u64 (H k)) b off ha ?_ (fun _ _ => rfl) ?_)
    · intro k hk
      exact below_some ((Below.refl w.heap.size w).alloc (Nat.le_refl _) _) (hc k hk)
    · intro w1 hrow honly
      go_wp2
      go_ret
      exact ⟨_, _, rfl, fun _ => rfl, Nat.le_refl _, fun _ => hrow.congr (fun i hi => by simp [hi]), honly.below ((Below.refl _ _).alloc (Nat.le_refl _) _) (Nat.le_refl _)⟩

theorem quiet_trans {w w1 w2 : World} (h : ∃ m, w1 = w.drewN m) (k : ∃ m, w2 = w1.drewN m) : ∃ m, w2 = w.drewN m := by
  obtain ⟨m, rfl⟩ := h
  obtain ⟨m', rfl⟩ := k
  exact ⟨m + m', by rw [World.drewN_drewN]⟩

set_option maxHeartbeats 800000 in
theorem sameGram31 (b off m c b2 off2 c2 : Nat) (p q n : Nat) (T : Nat → ByteArray) (H : Nat → Nat) (w : World) (hm : m ≤ 1024) (hp : p + n ≤ m) (hq : q + n ≤ m)
    (hc : ∀ k, k < m → w.cell? ⟨b, off + k, none⟩ = some (.string (T k))) (hc2 : ∀ k, k < m → w.cell? ⟨b2, off2 + k, none⟩ = some (.int .u64 (H k))) :
    Calls Try.prog 31 #[.slice (some ⟨b, off, none⟩) m c, .slice (some ⟨b2, off2, none⟩) m c2, .int .i64 p, .int .i64 q, .int .i64 n] w fun e w' => e = .returned (.bool (sameG T H n p q)) ∧ ∃ d, w' = w.drewN d := by
  go_enter Try.func31, Try.ntmps31
  go_wp2
  go_loopw [11] (fun i wr => ∃ k : Nat, k ≤ n ∧ i = .int .i64 k ∧ Hid (sameG T H k p q = true) ∧ ∃ d, wr = w.drewN d) (fun i _ => n - (intOf i).toNat)
  case atStart => exact ⟨0, Nat.zero_le _, rfl, (rfl : sameG T H 0 p q = true), 0, rfl⟩
  case round =>
    obtain ⟨k, hk, rfl, HS, hd⟩ := hrel
    by_cases hlt : k < n
    · have x1 : wr.cell? ⟨b, off + (p + k), none⟩ = some (.string (T (p + k))) := by obtain ⟨d, rfl⟩ := hd; exact hc _ (by omega)
      have x2 : wr.cell? ⟨b, off + (q + k), none⟩ = some (.string (T (q + k))) := by obtain ⟨d, rfl⟩ := hd; exact hc _ (by omega)
      have y1 : wr.cell? ⟨b2, off2 + (p + k), none⟩ = some (.int .u64 (H (p + k))) := by obtain ⟨d, rfl⟩ := hd; exact hc2 _ (by omega)
      have y2 : wr.cell? ⟨b2, off2 + (q + k), none⟩ = some (.int .u64 (H (q + k))) := by obtain ⟨d, rfl⟩ := hd; exact hc2 _ (by omega)
      have l1 : (p : Int) + (k : Int) < (m : Int) := by omega
      have l2 : (q : Int) + (k : Int) < (m : Int) := by omega
      have NX : Hid (sameG T H (k + 1) p q = (sameW (T (p + k)) (H (p + k)) (T (q + k)) (H (q + k)))) := by
        show allTo _ (k + 1) = _
        rw [allTo_succ, show allTo _ k = true from HS.out]; rfl
      have NO : Hid (sameW (T (p + k)) (H (p + k)) (T (q + k)) (H (q + k)) = false → sameG T H n p q = false) := fun h => allTo_false hlt h
      clear hc hc2
      cases ht : ((T (p + k)).toList == (T (q + k)).toList)
      · have F := NO.out (by unfold sameW; rw [ht]; simp)
        have HF : Hid (sameG T H n p q = false) := F
        clear F NO NX
        go_wp2
        go_big_quiet (fail)
        go_wp2
        go_ret
        exact ⟨by rw [HF.out]; rfl, quiet_trans hd ⟨_, rfl⟩⟩
      cases hh : ((H (p + k) : Int) == (H (q + k) : Int))
      · have F := NO.out (by unfold sameW; rw [hh]; simp)
        have HF : Hid (sameG T H n p q = false) := F
        have hh2 : ((H (p + k) : Int) != (H (q + k) : Int)) = true := by rw [bne, hh]; rfl
        clear F NO NX
        go_wp2
        go_big_quiet (fail)
        go_wp2
        go_ret
        exact ⟨by rw [HF.out]; rfl, quiet_trans hd ⟨_, rfl⟩⟩
      · have F := NX.out.trans (by unfold sameW; rw [hh, ht]; rfl : _ = true)
        have HF : Hid (sameG T H (k + 1) p q = true) := F
        have hh2 : ((H (p + k) : Int) != (H (q + k) : Int)) = false := by rw [bne, hh]; rfl
        clear F NO NX
        go_wp2
        go_big_quiet (fail)
        go_wp2
        go_roundw
        case rel => exact ⟨k + 1, by omega, by go_num, HF, quiet_trans hd ⟨_, rfl⟩⟩
        case measure => simp [intOf]; omega
    · obtain rfl : k = n := by omega
      clear hc hc2
      go_wp2
      go_ret
      exact ⟨by rw [HS.out]; rfl, hd⟩
end Go.Proofs.Qxb6602115a
