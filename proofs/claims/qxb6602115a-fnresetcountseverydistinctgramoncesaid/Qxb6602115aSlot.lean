import Derived.Test.Qxb6602115aGram
import Derived.Laws.Bits64
import Derived.Deep.LoopGhost
namespace Go.Proofs.Qxb6602115a
open Go.RowKit
open Pl
attribute [local go_sem ↓] Go.wp_at_zero Go.wp_at_succ

theorem and_u64_nat (a b : Nat) (ha : a < 18446744073709551616) (hb : b < 18446744073709551616) :
    bits .and .u64 (a : Int) (b : Int) = ((a &&& b : Nat) : Int) := by
  have hx : a &&& b < 2 ^ 64 := Nat.and_lt_two_pow _ (by omega)
  have h1 : (BitVec.ofInt 64 (a : Int)).toNat = a := by
    rw [BitVec.ofInt_natCast, BitVec.toNat_ofNat]; exact Nat.mod_eq_of_lt (by omega)
  have h2 : (BitVec.ofInt 64 (b : Int)).toNat = b := by
    rw [BitVec.ofInt_natCast, BitVec.toNat_ofNat]; exact Nat.mod_eq_of_lt (by omega)
  show IntKind.u64.wrap ((BitVec.ofInt 64 (a : Int) &&& BitVec.ofInt 64 (b : Int)).toNat : Int) = _
  rw [BitVec.toNat_and, h1, h2, IntKind.wrap_u64]
  omega

/-- 'x & (N - 1)', N a power of two. -/
theorem and_mask (x e N : Nat) (hN : N = 2 ^ e) (hx : x < 18446744073709551616) (hle : N ≤ 65536) : bits .and .u64 (x : Int) ((N : Int) - 1) = ((x % N : Nat) : Int) := by
  have h1 : 1 ≤ N := by rw [hN]; exact Nat.one_le_two_pow
  rw [show ((N : Int) - 1) = ((N - 1 : Nat) : Int) by omega, and_u64_nat _ _ hx (by omega), hN, Nat.and_two_pow_sub_one_eq_mod]

/-- What lies in memory: the words, the table, the counts' own cells. -/
structure Mem (w : World) (gt gw gs m n N : Nat) (T : Nat → ByteArray) (H : Nat → Nat) (S : Nat → Slot) : Prop where
  t0 : w.cell? ⟨gt, 0, none⟩ = some (.slice (some ⟨gw, 0, none⟩) m m)
  t1 : w.cell? ⟨gt, 1, none⟩ = some (.int .i64 n)
  t2 : w.cell? ⟨gt, 2, none⟩ = some (.slice (some ⟨gs, 0, none⟩) N N)
  text : ∀ j, j < m → w.cell? ⟨gw, j * 2, none⟩ = some (.string (T j))
  hash : ∀ j, j < m → w.cell? ⟨gw, j * 2 + 1, none⟩ = some (.int .u64 (H j))
  s0 : ∀ j, j < N → w.cell? ⟨gs, j * 4, none⟩ = some (.string (S j).first)
  s1 : ∀ j, j < N → w.cell? ⟨gs, j * 4 + 1, none⟩ = some (.int .u64 (S j).hash)
  s2 : ∀ j, j < N → w.cell? ⟨gs, j * 4 + 2, none⟩ = some (.int .i64 (S j).start)
  s3 : ∀ j, j < N → w.cell? ⟨gs, j * 4 + 3, none⟩ = some (.int .i64 (S j).count)

theorem Mem.below {w w' : World} {gt gw gs m n N : Nat} {T : Nat → ByteArray} {H : Nat → Nat} {S : Nat → Slot} (h : Mem w gt gw gs m n N T H S) (hb : Below w.heap.size w w') : Mem w' gt gw gs m n N T H S :=
  ⟨below_some hb h.t0, below_some hb h.t1, below_some hb h.t2, fun j hj => below_some hb (h.text j hj), fun j hj => below_some hb (h.hash j hj), fun j hj => below_some hb (h.s0 j hj), fun j hj => below_some hb (h.s1 j hj), fun j hj => below_some hb (h.s2 j hj), fun j hj => below_some hb (h.s3 j hj)⟩

/-- 'x & (N - 1)' is x modulo N. -/
def Masks (N : Nat) : Prop := ∀ x : Nat, x < 18446744073709551616 → bits .and .u64 (x : Int) ((N : Int) - 1) = ((x % N : Nat) : Int)
theorem masks_pow (e N : Nat) (hN : N = 2 ^ e) (hle : N ≤ 65536) : Masks N := fun x hx => and_mask x e N hN hx hle

theorem below_q {B : Nat} {a w : World} (h : Below B a w) (n : Nat) : Below B a (w.drewN n) := ⟨h.os, h.tape, h.output, h.size, h.block⟩

set_option maxHeartbeats 2000000 in
theorem slot_any (gt gw gs m n N i h D : Nat) (T : Nat → ByteArray) (H : Nat → Nat) (S : Nat → Slot) (w : World) (M : Mem w gt gw gs m n N T H S)
    (hN : Masks N) (hN8 : 8 ≤ N) (hNle : N ≤ 65536) (hh : h < 18446744073709551616) (h1 : 1 ≤ n) (hin : i + n ≤ m) (hm : m ≤ 1024) (hst : ∀ j, j < N → (S j).start + n ≤ m)
    (hit : takes T H n i h (S ((h + D) % N)) = true) (hno : ∀ d, d < D → takes T H n i h (S ((h + d) % N)) = false) :
    Calls Try.prog 49 #[.pointer (some ⟨gt, 0, none⟩), .slice (some ⟨gw, i * 2, none⟩) n (m - i), .int .u64 h] w fun e w' => e = .returned (.pointer (some ⟨gs, (h + D) % N * 4, none⟩)) ∧ Below w.heap.size w w' := by
  have t2 := M.t2
  have em := hN h hh
  have HT : Hid _ := hit
  have HNO : Hid _ := hno
  have HST : Hid _ := hst
  clear hit hno hst
  go_enter Try.func49, Try.ntmps49
  go_wp2
  go_loopg [8] D (fun k x wr => ∃ d j : Nat, d + k = D ∧ Hid (j = (h + d) % N) ∧ j < N ∧ x = .int .u64 j ∧ Below w.heap.size w wr)
  case atStart => exact ⟨0, h % N, by omega, (rfl : h % N = (h + 0) % N), Nat.mod_lt _ (by omega), rfl, Below.refl _ _⟩
  case round =>
    obtain ⟨d, j, hd, HJ, hj, rfl, hb⟩ := hrel
    have M' := M.below hb
    have t0' := M'.t0
    have t1' := M'.t1
    have t2' := M'.t2
    have s0' := M'.s0 j hj
    have s1' := M'.s1 j hj
    have s2' := M'.s2 j hj
    have x0 : wr.cell? ⟨gw, i * 2, none⟩ = some (.string (T i)) := M'.text i (by omega)
    have jn : (j : Int) < (N : Int) := by omega
    have em2 : bits .and .u64 ((j : Int) + 1) ((N : Int) - 1) = (((j + 1) % N : Nat) : Int) := hN (j + 1) (by omega)
    have i0 : (0 : Int) < (n : Int) := by omega
    have NEXT : Hid (takes T H n i h (S j) = false → d < D) := fun hf => by
      rcases Nat.lt_or_ge d D with hlt | hge
      · exact hlt
      · obtain rfl : d = D := by omega
        have h2 := HT.out
        rw [← HJ.out, hf] at h2
        cases h2
    have HERE : Hid (takes T H n i h (S j) = true → d = D) := fun ht => by
      rcases Nat.lt_or_ge d D with hlt | hge
      · have h2 := HNO.out d hlt
        rw [← HJ.out, ht] at h2
        cases h2
      · omega
    have MOD : Hid ((j + 1) % N = (h + (d + 1)) % N) := by
      show _ = _
      rw [HJ.out, Nat.mod_add_mod, Nat.add_assoc]
    cases he : (S j).first.toList.isEmpty
    case true =>
      have hD := HERE.out (takes_empty he)
      have HJ' : Hid (j = (h + D) % N) := hD ▸ HJ.out
      clear hD HERE NEXT MOD em2
      go_wp2
      go_big_quiet (fail)
      go_wp2
      go_ret
      rw [← HJ'.out]
      exact ⟨rfl, below_q hb _⟩
    cases hhs : (((S j).hash : Int) == (h : Int))
    · have hlt := NEXT.out (takes_hash he hhs)
      clear HERE NEXT
      go_wp2
      go_big_quiet (fail)
      go_wp2
      go_roundg (gk - 1)
      case measure => omega
      case rel => exact ⟨d + 1, (j + 1) % N, by omega, MOD, Nat.mod_lt _ (by omega), rfl, below_q hb _⟩
    cases hft : ((S j).first.toList == (T i).toList)
    · have hlt := NEXT.out (takes_first he hft)
      clear HERE NEXT
      go_wp2
      go_big_quiet (fail)
      go_wp2
      go_roundg (gk - 1)
      case measure => omega
      case rel => exact ⟨d + 1, (j + 1) % N, by omega, MOD, Nat.mod_lt _ (by omega), rfl, below_q hb _⟩
    cases hn1 : ((n : Int) == 1)
    case true =>
      have hD := HERE.out (takes_one hhs hft hn1)
      have HJ' : Hid (j = (h + D) % N) := hD ▸ HJ.out
      clear hD HERE NEXT MOD em2
      go_wp2
      go_big_quiet (fail)
      go_wp2
      go_ret
      rw [← HJ'.out]
      exact ⟨rfl, below_q hb _⟩
    have ht := takes_more (H := H) he hhs hft hn1
    have hp := HST.out j hj
    generalize hpe : (S j).start = p at *
    have HPE : Hid ((S j).start = p) := hpe
    have n1 : n ≠ 1 := fun h => by subst h; simp at hn1
    have n2 : 2 ≤ n := by omega
    have b1 : (0 : Int) ≤ (p : Int) + 1 := by omega
    have b2 : (p : Int) + 1 ≤ (p : Int) + (n : Int) := by omega
    have b3 : (p : Int) + (n : Int) ≤ (m : Int) := by omega
    have b4 : (1 : Int) ≤ (n : Int) := by omega
    have w1 : IntKind.i64.wrap ((p : Int) + 1) = (p : Int) + 1 := by rw [IntKind.wrap_i64]; omega
    have w2 : IntKind.i64.wrap ((p : Int) + (n : Int)) = (p : Int) + (n : Int) := by rw [IntKind.wrap_i64]; omega
    have n3 : ¬ m = p + 1 := by omega
    have n4 : ¬ m - i = 1 := by omega
    have i0n : 0 < n := by omega
    have HC1 : Hid (∀ k, k < n - 1 → wr.cell? ⟨gw, (p + 1) * 2 + k * 2, none⟩ = some (.string (T (p + 1 + k))) ∧ wr.cell? ⟨gw, (p + 1) * 2 + k * 2 + 1, none⟩ = some (.int .u64 (H (p + 1 + k)))) := fun k hk => by
      have e1 := M'.text (p + 1 + k) (by omega)
      have e2 := M'.hash (p + 1 + k) (by omega)
      rw [show (p + 1 + k) * 2 = (p + 1) * 2 + k * 2 by omega] at e1 e2
      exact ⟨e1, e2⟩
    have HC2 : Hid (∀ k, k < n - 1 → wr.cell? ⟨gw, i * 2 + 2 + k * 2, none⟩ = some (.string (T (i + 1 + k))) ∧ wr.cell? ⟨gw, i * 2 + 2 + k * 2 + 1, none⟩ = some (.int .u64 (H (i + 1 + k)))) := fun k hk => by
      have e1 := M'.text (i + 1 + k) (by omega)
      have e2 := M'.hash (i + 1 + k) (by omega)
      rw [show (i + 1 + k) * 2 = i * 2 + 2 + k * 2 by omega] at e1 e2
      exact ⟨e1, e2⟩
    have HTK : Hid _ := ht
    clear hpe hp n1 ht
    go_wp2
    go_region_held3 (fun w' => w'.cell? ⟨gt, 0, none⟩ = some (.slice (some ⟨gw, 0, none⟩) m m) ∧ w'.cell? ⟨gt, 1, none⟩ = some (.int .i64 n) ∧ w'.cell? ⟨gs, j * 4, none⟩ = some (.string (S j).first) ∧ w'.cell? ⟨gs, j * 4 + 1, none⟩ = some (.int .u64 (S j).hash) ∧ w'.cell? ⟨gs, j * 4 + 2, none⟩ = some (.int .i64 p) ∧ w'.cell? ⟨gw, i * 2, none⟩ = some (.string (T i)))
      (first | go_keep | (go_split_ands; refine ⟨?_, ?_, ?_, ?_, ?_, ?_⟩ <;> (refine below_some hb2 ?_; assumption)))
      (first | (go_at_call 51; rw [show ((p : Int) + (n : Int)).toNat - (p + 1) = n - 1 by omega]; refine (sameWords_any gw ((p + 1) * 2) (n - 1) (m - (p + 1)) gw (i * 2 + 2) (n - 1) (m - i - 1) (fun k => T (p + 1 + k)) (fun k => T (i + 1 + k)) (fun k => (H (p + 1 + k) : Int)) (fun k => (H (i + 1 + k) : Int)) _ (by omega) (by omega) (by omega) (by exact HC1.out) (by exact HC2.out)).mono ?_; rintro e w2 ⟨rfl, hb2⟩))
    have hB : Below w.heap.size w w2 := hb.drew.trans (hb2.mono hb.size)
    clear hb2 s0' s1' s2' x0 t0' t1' t2'
    cases hr : allTo (fun k => sameW (T (p + 1 + k)) ((H (p + 1 + k) : Nat) : Int) (T (i + 1 + k)) ((H (i + 1 + k) : Nat) : Int)) (n - 1)
    · have hlt := NEXT.out (HTK.out.trans hr)
      clear HERE NEXT hr
      go_wp2
      go_roundg (gk - 1)
      case measure => omega
      case rel => exact ⟨d + 1, (j + 1) % N, by omega, MOD, Nat.mod_lt _ (by omega), rfl, hB⟩
    · have hD := HERE.out (HTK.out.trans hr)
      have HJ' : Hid (j = (h + D) % N) := hD ▸ HJ.out
      clear hD HERE NEXT MOD em2 hr
      go_wp2
      go_ret
      rw [← HJ'.out]
      exact ⟨rfl, hB⟩

end Go.Proofs.Qxb6602115a
