import Derived.Test.Qxb6602115aLawPuts
import Derived.Test.Qxb6602115aTableC
namespace Go.Proofs.Qxb6602115a
open Go.RowKit
open Pl
attribute [local go_sem ↓] Go.wp_at_zero Go.wp_at_succ

set_option maxHeartbeats 400000 in
theorem size30 (N G : Nat) (w : World) (hs : Sized G N) (hG : G ≤ 1024) :
    Calls Try.prog 30 #[.int .i64 N, .int .i64 G] w fun e w' => e = .returned (.bool true) ∧ w' = w := by
  have h8 := hs.eight
  have hle := hs.le
  have h2 := hs.twice
  have hself := hs.andself
  have b1 : decide ((N : Int) < 8) = false := decide_eq_false (by omega)
  have b2 : ¬ (N : Int) < 2 * (G : Int) := by omega
  rcases hs.tight with h | h
  · subst h
    go_enter Try.func30, Try.ntmps30
    go_wp2
    go_ret
    exact ⟨rfl, rfl⟩
  · by_cases h3 : N = 8
    · subst h3
      go_enter Try.func30, Try.ntmps30
      go_wp2
      go_ret
      exact ⟨rfl, rfl⟩
    · have b3 : ((N : Int) == 8) = false := by simp; omega
      have b4 : (N : Int) / 2 < 2 * (G : Int) := by omega
      go_enter Try.func30, Try.ntmps30
      go_wp2
      go_ret
      exact ⟨by simp, rfl⟩

/-- First occurrences and how often each came, laid as far as k. -/
structure Firsts (w7 : World) (gF gO G n k : Nat) (T : Nat → ByteArray) (H : Nat → Nat) (wr : World) : Prop where
  rF : wr.rowIs gF 3 G (partTo k (fun j => .int .i64 (fo T H n j)) (.int .i64 0))
  rO : wr.rowIs gO 3 G (fun p => .int .i64 (oc T H n p k))
  bel : Below w7.heap.size w7 wr

theorem Firsts.next {w7 W : World} {gF gO G n k : Nat} {T : Nat → ByteArray} {H : Nat → Nat} (hF : W.rowIs gF 3 G (partTo (k + 1) (fun j => .int .i64 (fo T H n j)) (.int .i64 0))) (hO : W.rowIs gO 3 G (fun p => .int .i64 (oc T H n p k)))
    (hb : Below w7.heap.size w7 W) (hne : gF ≠ gO) (hg : w7.heap.size ≤ gO) (f : Nat) (hf : fo T H n k = f) : Firsts w7 gF gO G n (k + 1) T H (W.setCell ⟨gO, f, none⟩ (.int .i64 ((oc T H n f k : Int) + 1))) := by
  refine ⟨hF.setOther (a := ⟨gO, f, none⟩) hne _, (hO.set f _).congr fun p _ => ?_, hb.setCell (p := ⟨gO, f, none⟩) hg _⟩
  by_cases e : p = f
  · rw [if_pos e, e, oc_succ, if_pos hf]; rfl
  · rw [if_neg e, oc_succ, if_neg (fun h => e (by rw [← hf]; exact h.symm))]; rfl

theorem first_set {W : World} {gF G n k : Nat} {T : Nat → ByteArray} {H : Nat → Nat} (v : Value) (h : W.rowIs gF 3 G (fun q => if q = k then v else partTo k (fun j => .int .i64 (fo T H n j)) (.int .i64 0) q)) (f : Nat) (hf : fo T H n k = f) :
    (W.setCell ⟨gF, k, none⟩ (.int .i64 f)).rowIs gF 3 G (partTo (k + 1) (fun j => .int .i64 (fo T H n j)) (.int .i64 0)) := by
  refine (h.set k _).congr fun q _ => ?_
  unfold partTo
  by_cases e : q = k
  · rw [if_pos e, if_pos (by omega), e]; show _ = Value.int .i64 (fo T H n k); rw [hf]
  · rw [if_neg e, if_neg e]
    by_cases e2 : q < k
    · rw [if_pos e2, if_pos (by omega)]
    · rw [if_neg e2, if_neg (by omega)]
theorem first_kept {W : World} {gF G n k : Nat} {T : Nat → ByteArray} {H : Nat → Nat} (h : W.rowIs gF 3 G (fun q => if q = k then .int .i64 k else partTo k (fun j => .int .i64 (fo T H n j)) (.int .i64 0) q)) (hf : fo T H n k = k) :
    W.rowIs gF 3 G (partTo (k + 1) (fun j => .int .i64 (fo T H n j)) (.int .i64 0)) := by
  refine h.congr fun q _ => ?_
  unfold partTo
  by_cases e : q = k
  · rw [if_pos e, if_pos (by omega), e]; show _ = Value.int .i64 (fo T H n k); rw [hf]
  · rw [if_neg e]
    by_cases e2 : q < k
    · rw [if_pos e2, if_pos (by omega)]
    · rw [if_neg e2, if_neg (by omega)]

theorem Firsts.start (w7 : World) (G n : Nat) (T : Nat → ByteArray) (H : Nat → Nat) :
    Firsts w7 w7.heap.size (w7.heap.size + 1) G n 0 T H ((w7.alloc (.cells (madeCells #[.int .i64 0] G) 3)).alloc (.cells (madeCells #[.int .i64 0] G) 3)) := by
  have z1 : (w7.alloc (.cells (madeCells #[.int .i64 0] G) 3)).heap.size = w7.heap.size + 1 := by simp
  have p2 := World.rowIs_made (w7.alloc (.cells (madeCells #[.int .i64 0] G) 3)) (.int .i64 0) G 3
  rw [z1] at p2
  exact ⟨(part_made w7 (.int .i64 0) G 3 _).alloc _, p2.congr (fun _ _ => rfl), ((Below.refl _ _).alloc (Nat.le_refl _) _).alloc (by rw [z1]; omega) _⟩

set_option maxRecDepth 100000 in
set_option maxHeartbeats 4000000 in
theorem counts_main (a a2 : Option Addr) (b off b2 off2 m n c c2 : Nat) (T : Nat → ByteArray) (H : Nat → Nat) (w : World) (hm : m ≤ 1024) (h1 : 1 ≤ n) (hn : n ≤ 9223372036854775807)
    (hnil : a = none → m = 0 ∧ c = 0) (hnil2 : a2 = none → m = 0 ∧ c2 = 0)
    (ha : 0 < m → a = some ⟨b, off, none⟩) (ha2 : 0 < m → a2 = some ⟨b2, off2, none⟩)
    (hc : ∀ k, k < m → w.cell? ⟨b, off + k, none⟩ = some (.string (T k))) (hc2 : ∀ k, k < m → w.cell? ⟨b2, off2 + k, none⟩ = some (.int .u64 (H k)))
    (hH : ∀ k, k < m → H k < 18446744073709551616) :
    Calls Try.prog 8 #[.slice a m c, .slice a2 m c2, .int .i64 n] w fun e w' => StandsR w e w' := by
  have tm : decide ((1024 : Int) < (m : Int)) = false := decide_eq_false (by omega)
  have tn : decide ((n : Int) < 1) = false := decide_eq_false (by omega)
  go_enter Try.func8, Try.ntmps8
  go_wp2_with fail
  refine (bytes23 a a2 b off m c m c2 n T _ (by omega) ha hc).mono ?_
  rintro e w0 ⟨fits, rfl, rfl⟩
  cases fits
  · go_wp2_with fail
    go_ret
    exact ⟨rfl, Below.refl _ _⟩
  go_wp2_with fail
  refine (fit24 a a2 b off m c m c2 T _ hm hm ha hc).mono ?_
  rintro e w1 ⟨fits, rfl, rfl⟩
  cases fits
  · go_wp2_with fail
    go_ret
    exact ⟨rfl, Below.refl _ _⟩
  go_wp2_with fail
  refine (grams25 m n _ hm).mono ?_
  rintro e w2 ⟨rfl, rfl⟩
  have hGm := gramsOf_m (m := m) h1
  have HK : Hid (∀ k, k < gramsOf m n → k + n ≤ m) := fun k hk => gramsOf_le hk
  generalize hGe : gramsOf m n = G at *
  have HG : Hid (gramsOf m n = G) := hGe
  clear hGe
  go_wp2_with fail
  refine (named26 a b off m c G T _ hm hGm ha hc).mono ?_
  rintro e w3 ⟨nm, rfl, rfl, hnm⟩
  cases nm
  · go_wp2_with fail
    go_ret
    exact ⟨rfl, Below.refl _ _⟩
  replace hnm := hnm rfl
  go_wp2_with fail
  refine (cloneS a b off m c T _ (by omega) hnil ha hc).mono ?_
  rintro e w4 ⟨a4, g4, rfl, ha4, hg4, hr4, hb4⟩
  go_wp2_with fail
  refine (cloneU a2 b2 off2 m c2 H _ (by omega) hnil2 ha2 (fun k hk => below_some hb4 (hc2 k hk))).mono ?_
  rintro e w5 ⟨a5, g5, rfl, ha5, hg5, hr5, hb5⟩
  have hB5 := hb4.trans (hb5.mono hb4.size)
  have hr4' : 0 < m → w5.rowIs g4 9 m (fun k => .string (T k)) := fun h => below_row hb5 (hr4 h) (hr4 h).lt
  clear hb4 hb5 hr4 hc hc2 ha ha2 hnil hnil2 tm tn
  go_wp2_with fail
  refine (read_any a4 a5 g4 0 g5 0 m n m m T H _ hm h1 hn ha4 ha5 (fun k hk => by rw [Nat.zero_add]; exact (hr4' (by omega)).cell hk) (fun k hk => by rw [Nat.zero_add]; exact (hr5 (by omega)).cell hk) hH (by rw [HG.out]; exact hnm)).mono ?_
  rintro e w6 ⟨N, S, k1, k2, k3, k4, k5, k6, rfl, R, hb6⟩
  have hB6 := hB5.trans (hb6.mono hB5.size)
  replace hr4' : 0 < m → w6.rowIs g4 9 m (fun k => .string (T k)) := fun h => below_row hb6 (hr4' h) (hr4' h).lt
  replace hr5 : 0 < m → w6.rowIs g5 42 m (fun k => .int .u64 (H k)) := fun h => below_row hb6 (hr5 h) (hr5 h).lt
  clear hB5 hb6
  have n8 := R.sized.eight
  have nle := R.sized.le
  go_wp2
  go_loopw [16] (fun i wr => ∃ k : Nat, k ≤ m ∧ i = .int .i64 k ∧ Below w6.heap.size w6 wr) (fun i _ => m - (intOf i).toNat)
  case atStart => exact ⟨0, Nat.zero_le _, rfl, Below.refl _ _⟩
  case round =>
    obtain ⟨k, hk, rfl, hb⟩ := hrel
    by_cases hlt : k < m
    · obtain rfl := ha4 (by omega)
      obtain rfl := ha5 (by omega)
      have x1 := (below_row hb (hr4' (by omega)) (hr4' (by omega)).lt).cell hlt
      have x2 := (below_row hb (hr5 (by omega)) (hr5 (by omega)).lt).cell hlt
      have x3 := (below_row hb R.r5 R.r5.lt).cell hlt
      have x4 := (below_row hb R.r6 R.r6.lt).cell hlt
      have s1 : ((T k).toList == (T k).toList) = true := by simp
      have s2 : ((H k : Int) != (H k : Int)) = false := by simp
      have kl : (k : Int) < (m : Int) := by omega
      go_wp2
      go_big_quiet (fail)
      go_wp2
      go_roundw
      case rel => exact ⟨k + 1, by omega, by go_num, below_q hb _⟩
      case measure => simp [intOf]; omega
    · obtain ⟨w7, rfl⟩ : ∃ w7 : World, w7 = wr := ⟨_, rfl⟩
      go_wp2_with fail
      refine (size30 N G _ (by rw [← HG.out]; exact R.sized) (by omega)).mono ?_
      rintro e w8 ⟨rfl, rfl⟩
      have mk3 := run_make_row' (P := Try.prog) 39 3 (.int .i64 0) 8 Try.underlying39 info3 rfl .i64 .i64 G (by omega) (by omega)
      go_wp2
      clear mk3
      have hK4 : 0 < m → w8.rowIs g4 9 m (fun k => .string (T k)) := fun h => below_row hb (hr4' h) (hr4' h).lt
      have hK5 : 0 < m → w8.rowIs g5 42 m (fun k => .int .u64 (H k)) := fun h => below_row hb (hr5 h) (hr5 h).lt
      go_loopw [19, 20] (fun ds i wr => ∃ k : Nat, k ≤ G ∧ i = .int .i64 k ∧ ds = .int .i64 (dist T H n k) ∧ Firsts w8 w8.heap.size (w8.heap.size + 1) G n k T H wr) (fun _ i _ => G - (intOf i).toNat)
      case atStart => exact ⟨0, Nat.zero_le _, rfl, rfl, Firsts.start w8 G n T H⟩
      case round =>
        obtain ⟨k, hk, rfl, rfl, F⟩ := hrel
        have hdl := dist_le T H n k
        by_cases hlt : k < G
        · have hkm := HK.out k hlt
          obtain rfl := ha4 (by omega)
          obtain rfl := ha5 (by omega)
          have y1 := F.rF.cell hlt
          have f1 := F.rF.frozen k
          have kG : (k : Int) < (G : Int) := by omega
          obtain ⟨wo, hwo⟩ : ∃ wo : World, wo = wr := ⟨_, rfl⟩
          subst hwo
          go_wp2
          go_loopw [21] (fun j wi => ∃ r : Nat, r ≤ k ∧ j = .int .i64 r ∧ Hid (∀ q, q < r → sameG T H n q k = false) ∧ ∃ d, wi = (wo.setCell ⟨w8.heap.size, k, none⟩ (.int .i64 k)).drewN d) (fun j _ => k - (intOf j).toNat)
          case atStart => exact ⟨0, Nat.zero_le _, rfl, fun q h => absurd h (by omega), 0, rfl⟩
          case round =>
            obtain ⟨r, hr, rfl, HR, hd⟩ := hrel
            have rF1 : wr.rowIs w8.heap.size 3 G (fun q => if q = k then .int .i64 k else partTo k (fun j => .int .i64 (fo T H n j)) (.int .i64 0) q) := by obtain ⟨d, rfl⟩ := hd; exact F.rF.set k _
            have rO1 : wr.rowIs (w8.heap.size + 1) 3 G (fun p => .int .i64 (oc T H n p k)) := by obtain ⟨d, rfl⟩ := hd; exact F.rO.setOther (a := ⟨w8.heap.size, k, none⟩) (by simp only; omega) _
            have hb1 : Below w8.heap.size w8 wr := by obtain ⟨d, rfl⟩ := hd; exact below_q (F.bel.setCell (p := ⟨w8.heap.size, k, none⟩) (Nat.le_refl _) _) d
            have y0 : wr.cell? ⟨w8.heap.size, k, none⟩ = some (.int .i64 k) := by have := rF1.cell hlt; simpa using this
            have f0 := rF1.frozen k
            by_cases hlt2 : r < k
            · have q4 := below_row hb1 (hK4 (by omega)) (hK4 (by omega)).lt
              have q5 := below_row hb1 (hK5 (by omega)) (hK5 (by omega)).lt
              have HCALL : Hid (Calls Try.prog 31 #[.slice (some ⟨g4, 0, none⟩) m m, .slice (some ⟨g5, 0, none⟩) m m, .int .i64 r, .int .i64 k, .int .i64 n] wr fun e w' => e = .returned (.bool (sameG T H n r k)) ∧ ∃ d, w' = wr.drewN d) :=
                sameGram31 g4 0 m m g5 0 m r k n T H wr hm (by omega) hkm (fun i hi => by rw [Nat.zero_add]; exact q4.cell hi) (fun i hi => by rw [Nat.zero_add]; exact q5.cell hi)
              clear q4 q5 y1 f1
              go_wp2_with fail
              refine (HCALL.out).mono ?_
              rintro e w9 ⟨rfl, hq⟩
              clear HCALL
              cases hsm : sameG T H n r k
              · have HN : Hid (∀ q, q < r + 1 → sameG T H n q k = false) := fun q hq2 => by
                  by_cases e : q = r
                  · rw [e]; exact hsm
                  · exact HR.out q (by omega)
                have hd2 := quiet_trans hd hq
                clear hsm hq rF1 rO1 hb1 y0 f0
                go_wp2
                go_roundw
                case rel => exact ⟨r + 1, by omega, by go_num, HN, hd2⟩
                case measure => simp [intOf]; omega
              · have hfo := fo_found hsm HR.out
                replace rF1 : w9.rowIs w8.heap.size 3 G (fun q => if q = k then .int .i64 k else partTo k (fun j => .int .i64 (fo T H n j)) (.int .i64 0) q) := by obtain ⟨d, rfl⟩ := hq; exact rF1
                replace rO1 : w9.rowIs (w8.heap.size + 1) 3 G (fun p => .int .i64 (oc T H n p k)) := by obtain ⟨d, rfl⟩ := hq; exact rO1
                replace hb1 : Below w8.heap.size w8 w9 := by obtain ⟨d, rfl⟩ := hq; exact below_q hb1 d
                replace y0 : w9.cell? ⟨w8.heap.size, k, none⟩ = some (.int .i64 k) := by obtain ⟨d, rfl⟩ := hq; exact y0
                replace f0 := rF1.frozen k
                have z0 := rO1.cell (i := r) (by omega)
                have zf := rO1.frozen r
                have hol : oc T H n r k ≤ k := oc_le r k
                have HFN : Hid _ := Firsts.next (first_set _ rF1 r hfo) (rO1.setOther (a := ⟨w8.heap.size, k, none⟩) (by simp only; omega) _) (hb1.setCell (p := ⟨w8.heap.size, k, none⟩) (Nat.le_refl _) _) (by omega) (by omega) r hfo
                have HDS : Hid (dist T H n (k + 1) = dist T H n k) := dist_miss (by omega)
                have rk : ((r : Int) == (k : Int)) = false := by simp; omega
                clear hsm hq hd hfo rF1 rO1 hb1 HR
                go_wp2
                go_roundw
                case rel => exact ⟨k + 1, by omega, by go_num, by rw [HDS.out], HFN.out⟩
                case measure => simp [intOf]; omega
            · obtain rfl : r = k := by omega
              have hfo := fo_none HR.out
              have z0 := rO1.cell (i := r) (by omega)
              have zf := rO1.frozen r
              have hol : oc T H n r r ≤ r := oc_le r r
              have HFN : Hid _ := Firsts.next (first_kept rF1 hfo) rO1 hb1 (by omega) (by omega) r hfo
              have HDS : Hid (dist T H n (r + 1) = dist T H n r + 1) := dist_hit hfo
              clear hd hfo rF1 rO1 hb1 HR y1 f1
              go_wp2
              go_roundw
              case rel => exact ⟨r + 1, by omega, by go_num, by rw [HDS.out]; go_num, HFN.out⟩
              case measure => simp [intOf]; omega
        · obtain rfl : k = G := by omega
          obtain ⟨wq, hwq⟩ : ∃ wq : World, wq = wr := ⟨_, rfl⟩
          subst hwq
          have INV : Hid (Inv T H n N k S) := by have := R.inv; rw [HG.out] at this; exact this
          have hbq : Below w6.heap.size w6 wq := hb.trans (F.bel.mono hb.size)
          have rF := part_full F.rF
          have rO := F.rO
          have hus := usedTo_le S
          have HUS : Hid _ := hus
          clear hus
          have HHs : Hid (∀ k, k < m → H k < 18446744073709551616) := hH
          clear hH
          go_wp2
          go_loopw [22, 23] (fun us jj wr => ∃ j : Nat, j ≤ N ∧ jj = .int .i64 j ∧ us = .int .i64 (usedTo S j) ∧ Below wq.heap.size wq wr) (fun _ jj _ => N - (intOf jj).toNat)
          case atStart => exact ⟨0, Nat.zero_le _, rfl, rfl, Below.refl _ _⟩
          case round =>
            obtain ⟨j, hj, rfl, rfl, hbr⟩ := hrel
            have hul := HUS.out j
            by_cases hjn : j < N
            · obtain ⟨wz, hwz⟩ : ∃ wz : World, wz = wr := ⟨_, rfl⟩
              subst hwz
              have hb9 : Below w6.heap.size w6 wz := hbq.trans (hbr.mono hbq.size)
              have x1 := (below_row hb9 R.r1 R.r1.lt).cell hjn
              have x2 := (below_row hb9 R.r2 R.r2.lt).cell hjn
              have x3 := (below_row hb9 R.r3 R.r3.lt).cell hjn
              have x4 := (below_row hb9 R.r4 R.r4.lt).cell hjn
              have jN : (j : Int) < (N : Int) := by omega
              cases hf : (S j).free
              case true =>
                have e := INV.out.empty j hjn hf
                rw [e] at x1 x2 x3 x4
                have he : ByteArray.empty.toList.isEmpty = true := by rw [ByteArray.toList_eq]; rfl
                have HU : Hid (usedTo S (j + 1) = usedTo S j) := usedTo_free hf
                simp only at x1 x2 x3 x4
                clear e hf
                go_wp2
                go_roundw
                case rel => exact ⟨j + 1, by omega, by go_num, by rw [HU.out], hbr⟩
                case measure => simp [intOf]; omega
              have t := INV.out.taken j hjn hf
              have hfo := fo_none t.head
              have hoc := oc_cnt t.head k
              have HU : Hid (usedTo S (j + 1) = usedTo S j + 1) := usedTo_taken hf
              have HUQ : Hid (∀ r, r < j → (S r).free = false → ¬ (S r).start = (S j).start) := fun r hr h1 h2 => by
                have := INV.out.uniq r j (by omega) hjn h1 hf h2; omega
              have he : (S j).first.toList.isEmpty = false := hf
              have t1 := t.lt
              have t2 := t.first
              have t3 := t.hash
              have t4 := t.count
              clear t hf
              rw [t2] at x1 he
              rw [t3] at x2
              rw [t4, ← hoc] at x4
              clear t2 t3 t4 hoc
              generalize (S j).start = i at *
              have hkm := HK.out i t1
              obtain rfl := ha4 (by omega)
              obtain rfl := ha5 (by omega)
              have x5 := (below_row hbr rF rF.lt).cell t1
              have x6 := (below_row hbr rO rO.lt).cell t1
              rw [hfo] at x5
              have x7 := (below_row hbr (below_row F.bel (hK4 (by omega)) (hK4 (by omega)).lt) (by have := (below_row F.bel (hK4 (by omega)) (hK4 (by omega)).lt).lt; exact this)).cell (i := i) (by omega)
              have q4 := below_row hbr (below_row F.bel (hK4 (by omega)) (hK4 (by omega)).lt) (below_row F.bel (hK4 (by omega)) (hK4 (by omega)).lt).lt
              have q5 := below_row hbr (below_row F.bel (hK5 (by omega)) (hK5 (by omega)).lt) (below_row F.bel (hK5 (by omega)) (hK5 (by omega)).lt).lt
              have HX4 : Hid (∀ j, j < n → wz.cell? ⟨g4, i + j, none⟩ = some (.string (T (i + j)))) := fun j hj => q4.cell (i := i + j) (by omega)
              have HX5 : Hid (∀ j, j < n → wz.cell? ⟨g5, i + j, none⟩ = some (.int .u64 (H (i + j)))) := fun j hj => q5.cell (i := i + j) (by omega)
              clear q4 q5
              have i0 : decide ((i : Int) < 0) = false := decide_eq_false (by omega)
              have iG : (i : Int) < (k : Int) := by omega
              have im : (i : Int) < (m : Int) := by omega
              have ii : ((i : Int) != (i : Int)) = false := by simp
              have s1 : ((T i).toList == (T i).toList) = true := by simp
              have s2 : ((oc T H n i k : Int) != (oc T H n i k : Int)) = false := by simp
              have s3 : ((gh H n i : Int) != (gh H n i : Int)) = false := by simp
              have hol : oc T H n i k ≤ k := oc_le i k
              go_wp2
              go_big_quiet (fail)
              have b1 : (i : Int) + (n : Int) ≤ (m : Int) := by omega
              have b0 : (0 : Int) ≤ (i : Int) := by omega
              have b2 : (i : Int) ≤ (i : Int) + (n : Int) := by omega
              have w1 : IntKind.i64.wrap ((i : Int) + (n : Int)) = (i : Int) + (n : Int) := by rw [IntKind.wrap_i64]; omega
              have nk : ¬ m = i := by omega
              go_wp2
              go_region_held3 (fun w' => w'.cell? ⟨k2, j, none⟩ = some (.int .u64 (gh H n i)))
                (first | go_keep | (refine below_some hb7 ?_; assumption))
                (first | (go_at_call 32; rw [show ((i : Int) + (n : Int)).toNat - i = n by omega]; refine (zzGramHash_any g4 i n (m - i) g5 i n (m - i) (fun j => T (i + j)) (fun j => H (i + j)) _ h1 (by omega) (Nat.le_refl _) (by omega) (by exact HX4.out) (by exact HX5.out)).mono ?_; rintro e w7 ⟨rfl, hb7⟩))
              rw [ghash_eq (fun j => H (i + j)) (n - 1) (fun j hj => HHs.out (i + j) (by omega)), show ghN (fun j => H (i + j)) (n - 1) = gh H n i from rfl]
              have hB7 : Below wq.heap.size wq w7 := (below_q hbr _).drew.trans (hb7.mono hbr.size)
              clear hb7 HX4 HX5 b0 b1 b2 w1 nk x1 x2 x3 x4 x5 x6 x7 hb9 hbr
              go_wp2
              go_loopw [25] (fun x wi => ∃ r : Nat, r ≤ j ∧ x = .int .i64 r ∧ Below wq.heap.size wq wi) (fun x _ => j - (intOf x).toNat)
              case atStart => exact ⟨0, Nat.zero_le _, rfl, hB7⟩
              case round =>
                obtain ⟨r, hr, rfl, hbi⟩ := hrel
                by_cases hrj : r < j
                · have hb9 : Below w6.heap.size w6 wr := hbq.trans (hbi.mono hbq.size)
                  have x1 := (below_row hb9 R.r1 R.r1.lt).cell (i := r) (by omega)
                  have x3 := (below_row hb9 R.r3 R.r3.lt).cell (i := r) (by omega)
                  have rN : (r : Int) < (N : Int) := by omega
                  clear hb9
                  cases hf : (S r).free
                  case true =>
                    have e := INV.out.empty r (by omega) hf
                    rw [e] at x1 x3
                    have he2 : ByteArray.empty.toList.isEmpty = true := by rw [ByteArray.toList_eq]; rfl
                    simp only at x1 x3
                    clear e hf
                    go_wp2
                    go_roundw
                    case rel => exact ⟨r + 1, by omega, by go_num, hbi⟩
                    case measure => simp [intOf]; omega
                  case false =>
                    have hne := HUQ.out r hrj hf
                    have he2 : (S r).first.toList.isEmpty = false := hf
                    have hne2 : (((S r).start : Int) == (i : Int)) = false := by simp; omega
                    clear hf hne
                    go_wp2
                    go_roundw
                    case rel => exact ⟨r + 1, by omega, by go_num, hbi⟩
                    case measure => simp [intOf]; omega
                · go_wp2
                  go_roundw
                  case rel => exact ⟨j + 1, by omega, by go_num, by rw [HU.out]; go_num, hbi⟩
                  case measure => simp [intOf]; omega
            · have hu := INV.out.used
              obtain rfl : j = N := by omega
              rw [hu]
              have hd2 : ((dist T H n k : Int) == (dist T H n k : Int)) = true := by simp
              clear hu
              go_wp2
              go_ret
              exact ⟨by simp, hB6.trans ((hbq.trans (hbr.mono hbq.size)).mono hB6.size)⟩

set_option maxRecDepth 100000 in
set_option maxHeartbeats 1000000 in
theorem lawCounts (a a2 : Option Addr) (b off b2 off2 m m2 c c2 : Nat) (n : Int) (T : Nat → ByteArray) (H : Nat → Nat) (w : World) (hmx : m ≤ 9223372036854775807) (hmx2 : m2 ≤ 9223372036854775807) (hn : n ≤ 9223372036854775807)
    (hnil : a = none → m = 0 ∧ c = 0) (hnil2 : a2 = none → m2 = 0 ∧ c2 = 0)
    (ha : 0 < m → a = some ⟨b, off, none⟩) (ha2 : 0 < m2 → a2 = some ⟨b2, off2, none⟩)
    (hc : ∀ k, k < m → w.cell? ⟨b, off + k, none⟩ = some (.string (T k))) (hc2 : ∀ k, k < m2 → w.cell? ⟨b2, off2 + k, none⟩ = some (.int .u64 (H k)))
    (hH : ∀ k, k < m2 → H k < 18446744073709551616) :
    Calls Try.prog 8 #[.slice a m c, .slice a2 m2 c2, .int .i64 n] w fun e w' => StandsR w e w' := by
  by_cases hm : m ≤ 1024
  case neg =>
    go_enter Try.func8, Try.ntmps8
    go_wp2_with fail
    refine (bytes23 a a2 b off m c m2 c2 n T _ hmx ha hc).mono ?_
    rintro e w0 ⟨fits, rfl, rfl⟩
    cases fits
    · go_wp2_with fail
      go_ret
      exact ⟨rfl, Below.refl _ _⟩
    have hg : (1024 : Int) < (m : Int) := by omega
    go_wp2_with fail
    go_ret
    exact ⟨rfl, Below.refl _ _⟩
  by_cases hm2 : m2 ≤ 1024
  case neg =>
    go_enter Try.func8, Try.ntmps8
    go_wp2_with fail
    refine (bytes23 a a2 b off m c m2 c2 n T _ hmx ha hc).mono ?_
    rintro e w0 ⟨fits, rfl, rfl⟩
    cases fits
    · go_wp2_with fail
      go_ret
      exact ⟨rfl, Below.refl _ _⟩
    have hg : (1024 : Int) < (m2 : Int) := by omega
    have hg2 : decide ((1024 : Int) < (m : Int)) = false := decide_eq_false (by omega)
    go_wp2_with fail
    go_ret
    exact ⟨rfl, Below.refl _ _⟩
  by_cases hq : m = m2 ∧ 1 ≤ n
  · obtain ⟨rfl, h1⟩ := hq
    obtain ⟨n', rfl⟩ := Int.eq_ofNat_of_zero_le (show 0 ≤ n by omega)
    exact counts_main a a2 b off b2 off2 m n' c c2 T H w hm (by omega) (by omega) hnil hnil2 ha ha2 hc hc2 hH
  · go_enter Try.func8, Try.ntmps8
    go_wp2_with fail
    refine (bytes23 a a2 b off m c m2 c2 n T _ hmx ha hc).mono ?_
    rintro e w0 ⟨fits, rfl, rfl⟩
    cases fits
    · go_wp2_with fail
      go_ret
      exact ⟨rfl, Below.refl _ _⟩
    go_wp2_with fail
    refine (fit24 a a2 b off m c m2 c2 T _ hm hm2 ha hc).mono ?_
    rintro e w1 ⟨fits, rfl, rfl⟩
    cases fits
    · go_wp2_with fail
      go_ret
      exact ⟨rfl, Below.refl _ _⟩
    by_cases e1 : m = m2
    · subst e1
      have hn1 : n < 1 := by
        by_cases l : n < 1
        · exact l
        · exact absurd ⟨rfl, by omega⟩ hq
      clear hq
      go_wp2_with fail
      go_ret
      exact ⟨rfl, Below.refl _ _⟩
    · have e2 : ((m : Int) != (m2 : Int)) = true := by simp; omega
      clear hq
      go_wp2_with fail
      go_ret
      exact ⟨rfl, Below.refl _ _⟩
end Go.Proofs.Qxb6602115a
