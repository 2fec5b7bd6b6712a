import Derived.Test.Qxb6602115aPre
namespace Go.Proofs.Qxb6602115a
open Go.RowKit
open Pl
attribute [local go_sem ↓] Go.wp_at_zero Go.wp_at_succ

/-- The law's end: true, and nothing that was there has turned. -/
def StandsR (w : World) (e : Ending) (w' : World) : Prop := e = .returned (.bool true) ∧ Below w.heap.size w w'

theorem and_i64_nat (a b : Nat) (ha : a < 9223372036854775808) (hb : b < 9223372036854775808) : bits .and .i64 (a : Int) (b : Int) = ((a &&& b : Nat) : Int) := by
  have hx : a &&& b < 2 ^ 63 := Nat.and_lt_two_pow _ (by omega)
  have h1 : (BitVec.ofInt 64 (a : Int)).toNat = a := by
    rw [BitVec.ofInt_natCast, BitVec.toNat_ofNat]; exact Nat.mod_eq_of_lt (by omega)
  have h2 : (BitVec.ofInt 64 (b : Int)).toNat = b := by
    rw [BitVec.ofInt_natCast, BitVec.toNat_ofNat]; exact Nat.mod_eq_of_lt (by omega)
  show IntKind.i64.wrap ((BitVec.ofInt 64 (a : Int) &&& BitVec.ofInt 64 (b : Int)).toNat : Int) = _
  rw [BitVec.toNat_and, h1, h2, IntKind.wrap_i64]
  omega

theorem Sized.masks {G N : Nat} (h : Sized G N) : Masks N := by
  obtain ⟨e, he⟩ := h.pow
  exact masks_pow e N he (by have := h.le; omega)

theorem Sized.andself {G N : Nat} (h : Sized G N) : bits .and .i64 (N : Int) ((N : Int) - 1) = 0 := by
  obtain ⟨e, he⟩ := h.pow
  have h8 := h.eight
  have hle := h.le
  rw [show ((N : Int) - 1) = ((N - 1 : Nat) : Int) by omega, and_i64_nat _ _ (by omega) (by omega)]
  have : N &&& (N - 1) = 0 := by
    have e2 : N &&& (N - 1) = N % N := by
      conv => lhs; rhs; rw [he]
      rw [Nat.and_two_pow_sub_one_eq_mod, ← he]
    rw [e2, Nat.mod_self]
  rw [this]; rfl

theorem Sized.dvd {G N : Nat} (h : Sized G N) : N ∣ 18446744073709551616 := by
  obtain ⟨e, he⟩ := h.pow
  have hle := h.le
  have h64 : e ≤ 64 := by
    rcases Nat.lt_or_ge 64 e with l | l
    · have := Nat.pow_le_pow_right (n := 2) (by omega) (Nat.le_of_lt l)
      have : (2 : Nat) ^ 64 ≤ 4096 := by omega
      exact absurd this (by decide)
    · exact l
  rw [he]
  exact Nat.pow_dvd_pow 2 h64

/-- Where the t-th probe from h looks. -/
theorem Sized.probe {G N : Nat} (hs : Sized G N) (h t : Nat) : bits .and .u64 (IntKind.u64.wrap ((h : Int) + (t : Int))) ((N : Int) - 1) = (((h + t) % N : Nat) : Int) := by
  rw [IntKind.wrap_u64, show ((h : Int) + (t : Int)) % 18446744073709551616 = (((h + t) % 18446744073709551616 : Nat) : Int) by omega, hs.masks _ (Nat.mod_lt _ (by omega)), Nat.mod_mod_of_dvd _ hs.dvd]

theorem gramsOf_le {m n k : Nat} (hk : k < gramsOf m n) : k + n ≤ m := by
  unfold gramsOf at hk
  split at hk <;> omega
theorem gramsOf_m {m n : Nat} (h1 : 1 ≤ n) : gramsOf m n ≤ m := by
  unfold gramsOf
  split <;> omega


set_option maxRecDepth 100000 in
set_option maxHeartbeats 2000000 in
theorem puts_main (a a2 : Option Addr) (b off b2 off2 m n c c2 : Nat) (T : Nat → ByteArray) (H : Nat → Nat) (w : World) (hm : m ≤ 1024) (h1 : 1 ≤ n) (hn : n ≤ 9223372036854775807)
    (hnil : a = none → m = 0 ∧ c = 0) (hnil2 : a2 = none → m = 0 ∧ c2 = 0)
    (ha : 0 < m → a = some ⟨b, off, none⟩) (ha2 : 0 < m → a2 = some ⟨b2, off2, none⟩)
    (hc : ∀ k, k < m → w.cell? ⟨b, off + k, none⟩ = some (.string (T k))) (hc2 : ∀ k, k < m → w.cell? ⟨b2, off2 + k, none⟩ = some (.int .u64 (H k)))
    (hH : ∀ k, k < m → H k < 18446744073709551616) :
    Calls Try.prog 9 #[.slice a m c, .slice a2 m c2, .int .i64 n] w fun e w' => StandsR w e w' := by
  go_enter Try.func9, Try.ntmps9
  go_wp2_with fail
  refine (bytes33 a a2 b off m c m c2 n T _ (by omega) ha hc).mono ?_
  rintro e w0 ⟨fits, rfl, rfl⟩
  cases fits
  · go_wp2_with fail
    go_ret
    exact ⟨rfl, Below.refl _ _⟩
  go_wp2_with fail
  refine (fit24 a a2 b off m c m c2 T _ hm hm ha hc).mono ?_
  rintro e w1 ⟨fits, rfl, rfl⟩
  cases fits
  · go_wp2_with fail
    go_ret
    exact ⟨rfl, Below.refl _ _⟩
  go_wp2_with fail
  refine (grams25 m n _ hm).mono ?_
  rintro e w2 ⟨rfl, rfl⟩
  go_wp2_with fail
  refine (named26 a b off m c (gramsOf m n) T _ hm (gramsOf_m h1) ha hc).mono ?_
  rintro e w3 ⟨nm, rfl, rfl, hnm⟩
  cases nm
  · go_wp2_with fail
    go_ret
    exact ⟨rfl, Below.refl _ _⟩
  replace hnm := hnm rfl
  go_wp2_with fail
  refine (cloneS a b off m c T _ (by omega) hnil ha hc).mono ?_
  rintro e w4 ⟨a4, g4, rfl, ha4, hg4, hr4, hb4⟩
  go_wp2_with fail
  refine (cloneU a2 b2 off2 m c2 H _ (by omega) hnil2 ha2 (fun k hk => below_some hb4 (hc2 k hk))).mono ?_
  rintro e w5 ⟨a5, g5, rfl, ha5, hg5, hr5, hb5⟩
  have hB5 := hb4.trans (hb5.mono hb4.size)
  have hr4' : 0 < m → w5.rowIs g4 9 m (fun k => .string (T k)) := fun h => below_row hb5 (hr4 h) (hr4 h).lt
  clear hb4 hb5 hr4 hc hc2 ha ha2 hnil hnil2
  go_wp2_with fail
  refine (read_any a4 a5 g4 0 g5 0 m n m m T H _ hm h1 hn ha4 ha5 (fun k hk => by rw [Nat.zero_add]; exact (hr4' (by omega)).cell hk) (fun k hk => by rw [Nat.zero_add]; exact (hr5 (by omega)).cell hk) hH hnm).mono ?_
  rintro e w6 ⟨N, S, k1, k2, k3, k4, k5, k6, rfl, R, hb6⟩
  have hB6 := hB5.trans (hb6.mono hB5.size)
  replace hr4' : 0 < m → w6.rowIs g4 9 m (fun k => .string (T k)) := fun h => below_row hb6 (hr4' h) (hr4' h).lt
  replace hr5 : 0 < m → w6.rowIs g5 42 m (fun k => .int .u64 (H k)) := fun h => below_row hb6 (hr5 h) (hr5 h).lt
  clear hB5 hb6
  have n8 := R.sized.eight
  have nle := R.sized.le
  have eself := R.sized.andself
  go_wp2
  have HM : Hid (gramsOf m n ≤ m) := gramsOf_m h1
  go_loopw [17] (fun i wr => ∃ k : Nat, k ≤ gramsOf m n ∧ i = .int .i64 k ∧ Below w6.heap.size w6 wr) (fun i _ => gramsOf m n - (intOf i).toNat)
  case atStart => exact ⟨0, Nat.zero_le _, rfl, Below.refl _ _⟩
  case round =>
    obtain ⟨k, hk, rfl, hb⟩ := hrel
    clear eself
    by_cases hlt : k < gramsOf m n
    · have hkm := gramsOf_le hlt
      obtain rfl := ha4 (by omega)
      obtain rfl := ha5 (by omega)
      obtain ⟨wo, rfl⟩ : ∃ wo : World, wo = wr := ⟨_, rfl⟩
      have q4 := below_row hb (hr4' (by omega)) (hr4' (by omega)).lt
      have q5 := below_row hb (hr5 (by omega)) (hr5 (by omega)).lt
      have b1 : (k : Int) + (n : Int) ≤ (m : Int) := by omega
      have b0 : (0 : Int) ≤ (k : Int) := by omega
      have b2 : (k : Int) ≤ (k : Int) + (n : Int) := by omega
      have w1 : IntKind.i64.wrap ((k : Int) + (n : Int)) = (k : Int) + (n : Int) := by rw [IntKind.wrap_i64]; omega
      have nk : ¬ m = k := by omega
      have HX4 : Hid (∀ j, j < n → wo.cell? ⟨g4, k + j, none⟩ = some (.string (T (k + j)))) := fun j hj => q4.cell (i := k + j) (by omega)
      have HX5 : Hid (∀ j, j < n → wo.cell? ⟨g5, k + j, none⟩ = some (.int .u64 (H (k + j)))) := fun j hj => q5.cell (i := k + j) (by omega)
      go_wp2
      go_region_held3 (fun _ => True) (first | trivial | go_keep)
        (first | (go_at_call 32; rw [show ((k : Int) + (n : Int)).toNat - k = n by omega]; refine (zzGramHash_any g4 k n (m - k) g5 k n (m - k) (fun j => T (k + j)) (fun j => H (k + j)) _ h1 (by omega) (Nat.le_refl _) (by omega) (by exact HX4.out) (by exact HX5.out)).mono ?_; rintro e w7 ⟨rfl, hb7⟩))
      rw [ghash_eq (fun j => H (k + j)) (n - 1) (fun j hj => hH (k + j) (by omega)), show ghN (fun j => H (k + j)) (n - 1) = gh H n k from rfl]
      have hgh : gh H n k < 18446744073709551616 := ghN_lt (fun j hj => hH (k + j) (by omega))
      have hB7 : Below w6.heap.size w6 w7 := hb.drew.trans (hb7.mono hb.size)
      clear hb7 hb q4 q5 HX4 HX5 b0 b1 b2 w1 nk
      obtain ⟨d, hd, hfree, hsame, hbefore⟩ := R.inv.path k hlt
      have HFREE : Hid _ := hfree
      have HSAME : Hid _ := hsame
      have HBEF : Hid _ := hbefore
      clear hfree hsame hbefore
      have hpr := R.sized.probe (gh H n k)
      have HPR : Hid _ := hpr
      clear hpr
      have hb6' : k < gramsOf m n := hlt
      go_wp2
      go_loopw [19, 20] (fun fd st wr => ∃ t : Nat, t ≤ d ∧ st = .int .i64 t ∧ fd = .bool false ∧ Below w6.heap.size w6 wr) (fun _ st _ => N - (intOf st).toNat)
      case atStart => exact ⟨0, Nat.zero_le _, rfl, rfl, hB7⟩
      case round =>
        obtain ⟨t, ht, rfl, rfl, hb⟩ := hrel
        have em := HPR.out t
        have hj : (gh H n k + t) % N < N := Nat.mod_lt _ (by omega)
        have hf : (S ((gh H n k + t) % N)).free = false := by
          by_cases e : t = d
          · rw [e]; exact HFREE.out
          · exact HBEF.out t (by omega)
        have LAST : Hid (sameG T H n (S ((gh H n k + t) % N)).start k = false → t < d) := fun h => by
          rcases Nat.lt_or_ge t d with l | l
          · exact l
          · obtain rfl : t = d := by omega
            rw [HSAME.out] at h; cases h
        have tk := R.inv.taken _ hj hf
        generalize (gh H n k + t) % N = j at *
        have x1 := (below_row hb R.r1 R.r1.lt).cell hj
        have x2 := (below_row hb R.r2 R.r2.lt).cell hj
        have x3 := (below_row hb R.r3 R.r3.lt).cell hj
        have x4 := (below_row hb R.r4 R.r4.lt).cell hj
        have he : (S j).first.toList.isEmpty = false := hf
        have hst : (S j).start < gramsOf m n := tk.lt
        have hcn : 1 ≤ (S j).count := tk.one
        have hcn2 : (1 : Int) ≤ ((S j).count : Int) := by omega
        have hs1 : ((S j).start : Int) < ((gramsOf m n : Nat) : Int) := by omega
        have jn : (j : Int) < (N : Int) := by omega
        have htk := tk.hash
        have hhash : Hid (sameG T H n (S j).start k = true → (((S j).hash : Int) == (gh H n k : Int)) = true) := fun h => by
          rw [htk, gh_same h1 h]; simp
        have hp := gramsOf_le hst
        have HCALL : Hid (Calls Try.prog 31 #[.slice (some ⟨g4, 0, none⟩) m m, .slice (some ⟨g5, 0, none⟩) m m, .int .i64 (S j).start, .int .i64 k, .int .i64 n] wr fun e w' => e = .returned (.bool (sameG T H n (S j).start k)) ∧ ∃ d, w' = wr.drewN d) := by
          have q4 := below_row hb (hr4' (by omega)) (hr4' (by omega)).lt
          have q5 := below_row hb (hr5 (by omega)) (hr5 (by omega)).lt
          exact sameGram31 g4 0 m m g5 0 m (S j).start k n T H wr hm hp hkm (fun i hi => by rw [Nat.zero_add]; exact q4.cell hi) (fun i hi => by rw [Nat.zero_add]; exact q5.cell hi)
        clear tk hf htk HPR HBEF HFREE HSAME hp hcn
        cases hh : (((S j).hash : Int) == (gh H n k : Int))
        · have hno : sameG T H n (S j).start k = false := by
            cases e : sameG T H n (S j).start k
            · rfl
            · have := hhash.out e; rw [hh] at this; cases this
          have htd := LAST.out hno
          clear hno LAST hhash HCALL
          go_wp2
          go_roundw
          case rel => exact ⟨t + 1, by omega, by go_num, rfl, hb⟩
          case measure => simp [intOf]; omega
        · go_wp2_with fail
          refine (HCALL.out).mono ?_
          rintro e w8 ⟨rfl, hq⟩
          have hb8 : Below w6.heap.size w6 w8 := by obtain ⟨x, rfl⟩ := hq; exact below_q hb x
          replace x4 : w8.cell? ⟨k4, j, none⟩ = some (.int .i64 (S j).count) := by obtain ⟨x, rfl⟩ := hq; exact x4
          cases hsm : sameG T H n (S j).start k
          · have htd := LAST.out hsm
            clear LAST hhash HCALL hsm hq x1 x2 x3
            go_wp2
            go_roundw
            case rel => exact ⟨t + 1, by omega, by go_num, rfl, hb8⟩
            case measure => simp [intOf]; omega
          · clear LAST hhash HCALL hsm hq x1 x2 x3
            go_wp2
            go_roundw
            case rel => exact ⟨k + 1, by omega, by go_num, hb8⟩
            case measure => simp [intOf]; omega
    · go_wp2
      go_ret
      exact ⟨rfl, hB6.trans (hb.mono hB6.size)⟩

set_option maxRecDepth 100000 in
set_option maxHeartbeats 1000000 in
theorem lawPuts (a a2 : Option Addr) (b off b2 off2 m m2 c c2 : Nat) (n : Int) (T : Nat → ByteArray) (H : Nat → Nat) (w : World) (hmx : m ≤ 9223372036854775807) (hmx2 : m2 ≤ 9223372036854775807) (hn : n ≤ 9223372036854775807)
    (hnil : a = none → m = 0 ∧ c = 0) (hnil2 : a2 = none → m2 = 0 ∧ c2 = 0)
    (ha : 0 < m → a = some ⟨b, off, none⟩) (ha2 : 0 < m2 → a2 = some ⟨b2, off2, none⟩)
    (hc : ∀ k, k < m → w.cell? ⟨b, off + k, none⟩ = some (.string (T k))) (hc2 : ∀ k, k < m2 → w.cell? ⟨b2, off2 + k, none⟩ = some (.int .u64 (H k)))
    (hH : ∀ k, k < m2 → H k < 18446744073709551616) :
    Calls Try.prog 9 #[.slice a m c, .slice a2 m2 c2, .int .i64 n] w fun e w' => StandsR w e w' := by
  by_cases hm : m ≤ 1024
  case neg =>
    go_enter Try.func9, Try.ntmps9
    go_wp2_with fail
    refine (bytes33 a a2 b off m c m2 c2 n T _ hmx ha hc).mono ?_
    rintro e w0 ⟨fits, rfl, rfl⟩
    cases fits
    · go_wp2_with fail
      go_ret
      exact ⟨rfl, Below.refl _ _⟩
    have hg : (1024 : Int) < (m : Int) := by omega
    go_wp2_with fail
    go_ret
    exact ⟨rfl, Below.refl _ _⟩
  by_cases hm2 : m2 ≤ 1024
  case neg =>
    go_enter Try.func9, Try.ntmps9
    go_wp2_with fail
    refine (bytes33 a a2 b off m c m2 c2 n T _ hmx ha hc).mono ?_
    rintro e w0 ⟨fits, rfl, rfl⟩
    cases fits
    · go_wp2_with fail
      go_ret
      exact ⟨rfl, Below.refl _ _⟩
    have hg : (1024 : Int) < (m2 : Int) := by omega
    have hg2 : decide ((1024 : Int) < (m : Int)) = false := decide_eq_false (by omega)
    go_wp2_with fail
    go_ret
    exact ⟨rfl, Below.refl _ _⟩
  by_cases hq : m = m2 ∧ 1 ≤ n
  · obtain ⟨rfl, h1⟩ := hq
    obtain ⟨n', rfl⟩ := Int.eq_ofNat_of_zero_le (show 0 ≤ n by omega)
    exact puts_main a a2 b off b2 off2 m n' c c2 T H w hm (by omega) (by omega) hnil hnil2 ha ha2 hc hc2 hH
  · go_enter Try.func9, Try.ntmps9
    go_wp2_with fail
    refine (bytes33 a a2 b off m c m2 c2 n T _ hmx ha hc).mono ?_
    rintro e w0 ⟨fits, rfl, rfl⟩
    cases fits
    · go_wp2_with fail
      go_ret
      exact ⟨rfl, Below.refl _ _⟩
    go_wp2_with fail
    refine (fit24 a a2 b off m c m2 c2 T _ hm hm2 ha hc).mono ?_
    rintro e w1 ⟨fits, rfl, rfl⟩
    cases fits
    · go_wp2_with fail
      go_ret
      exact ⟨rfl, Below.refl _ _⟩
    by_cases e1 : m = m2
    · subst e1
      have hn1 : n < 1 := by
        by_cases l : n < 1
        · exact l
        · exact absurd ⟨rfl, by omega⟩ hq
      clear hq
      go_wp2_with fail
      go_ret
      exact ⟨rfl, Below.refl _ _⟩
    · have e2 : ((m : Int) != (m2 : Int)) = true := by simp; omega
      clear hq
      go_wp2_with fail
      go_ret
      exact ⟨rfl, Below.refl _ _⟩
end Go.Proofs.Qxb6602115a
