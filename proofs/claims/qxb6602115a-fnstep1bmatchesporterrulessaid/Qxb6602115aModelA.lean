import Derived.Test.Qxb6602115aWords
import Derived.Test.Qxb6602115aSuffix
namespace Go.Proofs.Qxb6602115a
open Go.RowKit
open Pl

set_option maxHeartbeats 400000 in
theorem fits10 (a : Option Addr) (n c : Nat) (w : World) (h : n ≤ 1048576) :
    Calls Try.prog 10 #[.slice a n c] w fun e w' => e = .returned (.bool true) ∧ w' = w := by
  go_enter Try.func10, Try.ntmps10
  go_wp2
  go_ret
  exact ⟨rfl, rfl⟩

set_option maxHeartbeats 400000 in
theorem fits10_no (a : Option Addr) (n c : Nat) (w : World) (h : 1048576 < n) :
    Calls Try.prog 10 #[.slice a n c] w fun e w' => e = .returned (.bool false) ∧ w' = w := by
  go_enter Try.func10, Try.ntmps10
  go_wp2
  go_ret
  exact ⟨rfl, rfl⟩

theorem quietT {w w1 w2 : World} (h : ∃ m, w1 = w.drewN m) (k : ∃ m, w2 = w1.drewN m) : ∃ m, w2 = w.drewN m := by
  obtain ⟨m, rfl⟩ := h
  obtain ⟨m', rfl⟩ := k
  exact ⟨m + m', by rw [World.drewN_drewN]⟩

/-! ### zzEnds -/

/-- The k-th byte as a number (0 behind the end). -/
def zb (s : ByteArray) (k : Nat) : Int := if h : k < s.size then ((s[k]'h).toNat : Int) else 0
theorem zb_at {s : ByteArray} {k : Nat} (h : k < s.size) : ((s[k]'h).toNat : Int) = zb s k := by unfold zb; rw [dif_pos h]

/-- Are the first j letters from q on those of s? -/
def sameTo (z : Nat → Int) (q : Nat) (s : ByteArray) : Nat → Bool
  | 0 => true
  | j + 1 => sameTo z q s j && (z (q + j) == zb s j)
theorem sameTo_succ (z : Nat → Int) (q : Nat) (s : ByteArray) (j : Nat) : sameTo z q s (j + 1) = (sameTo z q s j && (z (q + j) == zb s j)) := rfl
theorem sameTo_not {z : Nat → Int} {q : Nat} {s : ByteArray} {j : Nat} (h : (z (q + j) == zb s j) = false) : ∀ n, j < n → sameTo z q s n = false
  | 0, hn => absurd hn (by omega)
  | n + 1, hn => by
    rw [sameTo_succ]
    by_cases e : j = n
    · subst e; rw [h]; simp
    · rw [sameTo_not h n (by omega)]; rfl

def endsS (z : Nat → Int) (k : Nat) (s : ByteArray) : Bool := decide (s.size ≤ k) && sameTo z (k - s.size) s s.size

set_option maxHeartbeats 1000000 in
theorem zzEnds_any (a : Option Addr) (b off n c : Nat) (i : Int) (k : Nat) (hi : i = k) (s : ByteArray) (z : Nat → Int) (w : World) (hk : k ≤ n) (hn : n ≤ 9223372036854775807) (ha : 0 < n → a = some ⟨b, off, none⟩)
    (hc : ∀ k, k < n → w.cell? ⟨b, off + k, none⟩ = some (.int .u8 (z k))) :
    Calls Try.prog 18 #[.slice a n c, .int .i64 i, .string s] w fun e w' => e = .returned (.bool (endsS z k s)) ∧ ∃ m, w' = w.drewN m := by
  subst hi
  unfold endsS
  by_cases hs : s.size ≤ k
  case neg =>
    have h1 : (k : Int) < (s.size : Int) := by omega
    rw [decide_eq_false hs]
    clear hc
    go_enter Try.func18, Try.ntmps18
    go_wp2
    go_ret
    exact ⟨rfl, 0, rfl⟩
  rw [decide_eq_true hs, Bool.true_and]
  obtain ⟨q, rfl⟩ : ∃ q, k = q + s.size := ⟨k - s.size, by omega⟩
  rw [Nat.add_sub_cancel]
  have h1 : decide ((q : Int) + (s.size : Int) < (s.size : Int)) = false := decide_eq_false (by omega)
  have h2 : decide ((n : Int) < (q : Int) + (s.size : Int)) = false := decide_eq_false (by omega)
  have hw2 : IntKind.i64.wrap (q : Int) = (q : Int) := by rw [IntKind.wrap_i64]; omega
  have hw3 : IntKind.i64.wrap ((q : Int) + (s.size : Int) - (s.size : Int)) = (q : Int) := by rw [IntKind.wrap_i64]; omega
  go_enter Try.func18, Try.ntmps18
  go_wp2
  go_loopw [8] (fun x wr => ∃ j : Nat, j ≤ s.size ∧ x = .int .i64 j ∧ Hid (sameTo z q s j = true) ∧ ∃ m, wr = w.drewN m) (fun x _ => s.size - (intOf x).toNat)
  case atStart => exact ⟨0, Nat.zero_le _, rfl, rfl, 0, rfl⟩
  case round =>
    obtain ⟨j, hj, rfl, HS, hq⟩ := hrel
    by_cases hlt : j < s.size
    · obtain rfl := ha (by omega)
      have hcell : wr.cell? ⟨b, off + (q + j), none⟩ = some (.int .u8 (z (q + j))) := by obtain ⟨m, rfl⟩ := hq; exact hc (q + j) (by omega)
      have hz := zb_at hlt
      have hw4 : IntKind.i64.wrap ((q : Int) + (j : Int)) = (q : Int) + (j : Int) := by rw [IntKind.wrap_i64]; omega
      have b1 : (q : Int) + (j : Int) < (n : Int) := by omega
      have b2 : (j : Int) < (s.size : Int) := by omega
      clear hc ha
      cases he : (z (q + j) == zb s j)
      · have HF : Hid (sameTo z q s s.size = false) := sameTo_not he _ hlt
        have hne : (z (q + j) != ((s[j]'hlt).toNat : Int)) = true := by rw [hz]; simpa using he
        clear he hz
        go_wp2
        go_big_quiet (fail)
        go_wp2
        go_ret
        exact ⟨by rw [HF.out]; rfl, quietT hq ⟨_, rfl⟩⟩
      · have HN : Hid (sameTo z q s (j + 1) = true) := by show _ = _; rw [sameTo_succ, HS.out, he]; rfl
        have hne : (z (q + j) != ((s[j]'hlt).toNat : Int)) = false := by rw [hz]; simpa using he
        clear he hz
        go_wp2
        go_big_quiet (fail)
        go_wp2
        go_roundw
        case rel => exact ⟨j + 1, by omega, by go_num, HN, quietT hq ⟨_, rfl⟩⟩
        case measure => simp [intOf]; omega
    · obtain rfl : j = s.size := by omega
      go_wp2
      go_ret
      exact ⟨by rw [HS.out]; rfl, hq⟩

theorem endsS3 (z : Nat → Int) (k : Nat) (x y v : UInt8) : endsS z k ⟨#[x, y, v]⟩ = ends3 z k x.toNat y.toNat v.toNat := by
  unfold endsS ends3
  show (decide (3 ≤ k) && (((true && (z (k - 3 + 0) == (x.toNat : Int))) && (z (k - 3 + 1) == (y.toNat : Int))) && (z (k - 3 + 2) == (v.toNat : Int)))) = _
  by_cases h : 3 ≤ k
  · obtain ⟨q, rfl⟩ : ∃ q, k = q + 3 := ⟨k - 3, by omega⟩
    show (_ && (((_ && (z (q + 0) == _)) && (z (q + 1) == _)) && (z (q + 2) == _))) = (_ && (z (q + 2) == _) && ((z q == _) && (z (q + 1) == _)))
    rw [Nat.add_zero]
    generalize (z q == (x.toNat : Int)) = A
    generalize (z (q + 1) == (y.toNat : Int)) = B
    generalize (z (q + 2) == (v.toNat : Int)) = C
    cases A <;> cases B <;> cases C <;> simp
  · rw [decide_eq_false h]; rfl
theorem endsS2 (z : Nat → Int) (k : Nat) (y v : UInt8) : endsS z k ⟨#[y, v]⟩ = ends2 z k y.toNat v.toNat := by
  unfold endsS ends2
  show (decide (2 ≤ k) && ((true && (z (k - 2 + 0) == (y.toNat : Int))) && (z (k - 2 + 1) == (v.toNat : Int)))) = _
  by_cases h : 2 ≤ k
  · obtain ⟨q, rfl⟩ : ∃ q, k = q + 2 := ⟨k - 2, by omega⟩
    show (_ && ((_ && (z (q + 0) == _)) && (z (q + 1) == _))) = (_ && (z (q + 1) == _) && (z q == _))
    rw [Nat.add_zero]
    generalize (z q == (y.toNat : Int)) = A
    generalize (z (q + 1) == (v.toNat : Int)) = B
    cases A <;> cases B <;> simp
  · rw [decide_eq_false h]; rfl

/-! ### zzHasVowel, zzMeasure -/

set_option maxHeartbeats 400000 in
theorem zzHasVowel_any (a : Option Addr) (b off n c : Nat) (i : Int) (k : Nat) (hi : i = k) (z : Nat → Int) (w : World) (hk : k ≤ n) (hn : n ≤ 9223372036854775807) (ha : 0 < n → a = some ⟨b, off, none⟩)
    (hc : ∀ k, k < n → w.cell? ⟨b, off + k, none⟩ = some (.bool (st z (k + 1)))) :
    Calls Try.prog 36 #[.slice a n c, .int .i64 i] w fun e w' => e = .returned (.bool (hasV z k)) ∧ w' = w := by
  subst hi
  go_enter Try.func36, Try.ntmps36
  go_wp2
  go_loop [5] (fun x => ∃ j : Nat, j ≤ k ∧ x = .int .i64 j ∧ Hid (hasV z j = false)) (fun x => k - (intOf x).toNat)
  case atStart => exact ⟨0, Nat.zero_le _, rfl, rfl⟩
  case round =>
    obtain ⟨j, hj, rfl, HS⟩ := hrel
    by_cases hlt : j < k
    · obtain rfl := ha (by omega)
      have hcell := hc j (by omega)
      have b1 : (j : Int) < (n : Int) := by omega
      clear hc ha
      cases he : st z (j + 1)
      · have HV : Hid (hasV z k = true) := hasV_of hlt he
        rw [he] at hcell
        clear he
        go_wp2
        go_ret
        exact ⟨by rw [HV.out]; rfl, rfl⟩
      · have HN : Hid (hasV z (j + 1) = false) := by show _ = _; rw [hasV_succ, HS.out, he]; rfl
        rw [he] at hcell
        clear he
        go_wp2
        go_round
        case rel => exact ⟨j + 1, by omega, by go_num, HN⟩
        case measure => simp [intOf]; omega
    · obtain rfl : j = k := by omega
      go_wp2
      go_ret
      exact ⟨by rw [HS.out]; rfl, rfl⟩

theorem meas_goes {z : Nat → Int} {j : Nat} (h : j = 0 ∨ st z j = true) : meas z (j + 1) = meas z j := by
  rw [meas_succ]
  rcases h with rfl | h
  · simp
  · rw [h]; simp

set_option maxHeartbeats 1000000 in
theorem zzMeasure_any (a : Option Addr) (b off n c : Nat) (i : Int) (k : Nat) (hi : i = k) (z : Nat → Int) (w : World) (hk : k ≤ n) (hn : n ≤ 9223372036854775807) (ha : 0 < n → a = some ⟨b, off, none⟩)
    (hc : ∀ k, k < n → w.cell? ⟨b, off + k, none⟩ = some (.bool (st z (k + 1)))) :
    Calls Try.prog 35 #[.slice a n c, .int .i64 i] w fun e w' => e = .returned (.int .i64 (meas z k)) ∧ w' = w := by
  subst hi
  have hle := meas_le z
  have HLE : Hid (∀ n, meas z n ≤ n) := hle
  have HC : Hid (∀ k, k < n → w.cell? ⟨b, off + k, none⟩ = some (.bool (st z (k + 1)))) := hc
  have HA : Hid (0 < n → a = some ⟨b, off, none⟩) := ha
  clear hle hc ha
  go_enter Try.func35, Try.ntmps35
  go_wp2
  go_loop [6] (fun x => ∃ j : Nat, j ≤ k ∧ x = .int .i64 j ∧ Hid (meas z j = 0 ∧ (j = 0 ∨ st z j = true))) (fun x => k - (intOf x).toNat)
  case atStart => exact ⟨0, Nat.zero_le _, rfl, rfl, .inl rfl⟩
  case round =>
    obtain ⟨j, hj, rfl, HS⟩ := hrel
    by_cases hgo : j < k ∧ st z (j + 1) = true
    · obtain ⟨hlt, he⟩ := hgo
      obtain rfl := HA.out (by omega)
      have hcell := HC.out j (by omega)
      have b1 : (j : Int) < (n : Int) := by omega
      have HN : Hid (meas z (j + 1) = 0 ∧ (j + 1 = 0 ∨ st z (j + 1) = true)) := ⟨by rw [meas_goes HS.out.2]; exact HS.out.1, .inr he⟩
      rw [he] at hcell
      clear he
      go_wp2
      go_round
      case rel => exact ⟨j + 1, by omega, by go_num, HN⟩
      case measure => simp [intOf]; omega
    · by_cases hjk : j = k
      · subst hjk
        have kk : decide ((j : Int) < (j : Int)) = false := decide_eq_false (by omega)
        have HM : Hid (meas z j = 0) := HS.out.1
        clear hgo
        go_wp2
        go_loop [5, 6] (fun m x => m = .int .i64 0 ∧ x = .int .i64 j) (fun _ _ => 0)
        case atStart => exact ⟨rfl, rfl⟩
        case round =>
          obtain ⟨rfl, rfl⟩ := hrel
          go_wp2
          go_ret
          exact ⟨by rw [HM.out]; rfl, rfl⟩
      · have hlt : j < k := by omega
        have he : st z (j + 1) = false := by
          cases e : st z (j + 1)
          · rfl
          · exact absurd ⟨hlt, e⟩ hgo
        obtain rfl := HA.out (by omega)
        have hcell := HC.out j (by omega)
        have b1 : (j : Int) < (n : Int) := by omega
        have H0 : Hid (meas z j = 0) := HS.out.1
        have H2 : Hid ((j = 0 ∨ st z j = true) ∧ (j < k → st z (j + 1) = false)) := ⟨HS.out.2, fun _ => he⟩
        rw [he] at hcell
        clear he hgo HS
        go_wp2
        clear hcell b1
        go_loop [5, 6] (fun m x => ∃ j : Nat, j ≤ k ∧ x = .int .i64 j ∧ m = .int .i64 (meas z j) ∧ Hid ((j = 0 ∨ st z j = true) ∧ (j < k → st z (j + 1) = false))) (fun _ x => k - (intOf x).toNat)
        case atStart => exact ⟨j, hj, rfl, by rw [H0.out]; rfl, H2⟩
        case round =>
          clear H0 H2 hjk hlt hj
          obtain ⟨p, hp, rfl, rfl, HP⟩ := hrel
          have hml := HLE.out p
          by_cases hlt : p < k
          · go_wp2
            go_loop [6] (fun x => ∃ r : Nat, p ≤ r ∧ r ≤ k ∧ x = .int .i64 r ∧ Hid (meas z r = meas z p ∧ (r = p ∨ st z r = false))) (fun x => k - (intOf x).toNat)
            case atStart => exact ⟨p, Nat.le_refl _, hp, rfl, rfl, .inl rfl⟩
            case round =>
              obtain ⟨r, hpr, hr, rfl, HR⟩ := hrel
              by_cases hrk : r = k
              · subst hrk
                have kk : decide ((r : Int) < (r : Int)) = false := decide_eq_false (by omega)
                have kb : ((r : Int) == (r : Int)) = true := by simp
                go_wp2
                go_ret
                exact ⟨by rw [← HR.out.1]; rfl, rfl⟩
              · have hlt2 : r < k := by omega
                have hcell := HC.out r (by omega)
                have b1 : (r : Int) < (n : Int) := by omega
                cases he : st z (r + 1)
                · have HN : Hid (meas z (r + 1) = meas z p ∧ (r + 1 = p ∨ st z (r + 1) = false)) := ⟨by rw [meas_miss he]; exact HR.out.1, .inr he⟩
                  rw [he] at hcell
                  clear he
                  go_wp2
                  go_round
                  case rel => exact ⟨r + 1, by omega, by omega, by go_num, HN⟩
                  case measure => simp [intOf]; omega
                · have hne : r ≠ p := fun e => by rw [e, HP.out.2 hlt] at he; cases he
                  have HV : Hid (st z r = false) := HR.out.2.resolve_left hne
                  have HE : Hid (st z (r + 1) = true) := he
                  have kb : ((r : Int) == (k : Int)) = false := by simp; omega
                  rw [he] at hcell
                  clear he
                  go_wp2
                  clear hcell b1
                  go_loop [6] (fun x => ∃ t : Nat, r ≤ t ∧ t ≤ k ∧ x = .int .i64 t ∧ Hid (t = r ∨ (r < t ∧ meas z t = meas z p + 1 ∧ st z t = true))) (fun x => k - (intOf x).toNat)
                  case atStart => exact ⟨r, Nat.le_refl _, hr, rfl, .inl rfl⟩
                  case round =>
                    obtain ⟨t, hrt, ht, rfl, HT⟩ := hrel
                    by_cases htk : t = k
                    · subst htk
                      have hfin : meas z t = meas z p + 1 ∧ st z t = true := (HT.out.resolve_left (by omega)).2
                      have HF : Hid (meas z t = meas z p + 1 ∧ st z t = true) := hfin
                      have kk : decide ((t : Int) < (t : Int)) = false := decide_eq_false (by omega)
                      clear hfin
                      go_wp2
                      go_round
                      case rel => exact ⟨t, Nat.le_refl _, rfl, by rw [HF.out.1]; go_num, .inr HF.out.2, fun h => absurd h (by omega)⟩
                      case measure => simp [intOf]; omega
                    · have hlt3 : t < k := by omega
                      have hcell := HC.out t (by omega)
                      have b1 : (t : Int) < (n : Int) := by omega
                      cases he : st z (t + 1)
                      · have hne2 : t ≠ r := fun e => by rw [e, HE.out] at he; cases he
                        have HF : Hid (r < t ∧ meas z t = meas z p + 1 ∧ st z t = true) := HT.out.resolve_left hne2
                        have HG : Hid (st z (t + 1) = false) := he
                        have hrt2 := HF.out.1
                        rw [he] at hcell
                        clear he
                        go_wp2
                        go_round
                        case rel => exact ⟨t, by omega, rfl, by rw [HF.out.2.1]; go_num, .inr HF.out.2.2, fun _ => HG.out⟩
                        case measure => simp [intOf]; omega
                      · have HN : Hid (t + 1 = r ∨ (r < t + 1 ∧ meas z (t + 1) = meas z p + 1 ∧ st z (t + 1) = true)) := by
                          refine .inr ⟨by omega, ?_, he⟩
                          rcases HT.out with e | ⟨_, e2, e3⟩
                          · subst e
                            rw [meas_hit he (by omega) HV.out, HR.out.1]
                          · rw [meas_goes (.inr e3), e2]
                        rw [he] at hcell
                        clear he
                        go_wp2
                        go_round
                        case rel => exact ⟨t + 1, by omega, by omega, by go_num, HN⟩
                        case measure => simp [intOf]; omega
          · obtain rfl : p = k := by omega
            go_wp2
            go_ret
            exact ⟨rfl, rfl⟩

/-! ### zzBytesEqual -/

set_option maxHeartbeats 1000000 in
theorem zzBytesEq (a a2 : Option Addr) (b off b2 off2 n n2 c c2 : Nat) (f f2 : Nat → Int) (w : World) (hn : n ≤ 9223372036854775807) (he : n = n2) (ha : 0 < n → a = some ⟨b, off, none⟩) (ha2 : 0 < n → a2 = some ⟨b2, off2, none⟩)
    (hc : ∀ k, k < n → w.cell? ⟨b, off + k, none⟩ = some (.int .u8 (f k))) (hc2 : ∀ k, k < n → w.cell? ⟨b2, off2 + k, none⟩ = some (.int .u8 (f2 k))) (hf : ∀ k, k < n → f k = f2 k) :
    Calls Try.prog 15 #[.slice a n c, .slice a2 n2 c2] w fun e w' => e = .returned (.bool true) ∧ ∃ m, w' = w.drewN m := by
  subst he
  have nn : ((n : Int) != (n : Int)) = false := by simp
  go_enter Try.func15, Try.ntmps15
  go_wp2
  go_loopw [5] (fun x wr => ∃ j : Nat, j ≤ n ∧ x = .int .i64 j ∧ ∃ m, wr = w.drewN m) (fun x _ => n - (intOf x).toNat)
  case atStart => exact ⟨0, Nat.zero_le _, rfl, 0, rfl⟩
  case round =>
    obtain ⟨j, hj, rfl, hq⟩ := hrel
    by_cases hlt : j < n
    · obtain rfl := ha (by omega)
      obtain rfl := ha2 (by omega)
      have x1 : wr.cell? ⟨b, off + j, none⟩ = some (.int .u8 (f j)) := by obtain ⟨m, rfl⟩ := hq; exact hc j hlt
      have x2 : wr.cell? ⟨b2, off2 + j, none⟩ = some (.int .u8 (f j)) := by rw [hf j hlt]; obtain ⟨m, rfl⟩ := hq; exact hc2 j hlt
      have b1 : (j : Int) < (n : Int) := by omega
      have ff : (f j != f j) = false := by simp
      clear hc hc2 hf ha ha2
      go_wp2
      go_big_quiet (fail)
      go_wp2
      go_roundw
      case rel => exact ⟨j + 1, by omega, by go_num, quietT hq ⟨_, rfl⟩⟩
      case measure => simp [intOf]; omega
    · obtain rfl : j = n := by omega
      go_wp2
      go_ret
      exact ⟨rfl, hq⟩
end Go.Proofs.Qxb6602115a
