import Derived.Test.Qxb6602115aLeaf
import Derived.Test.Qxb6602115aPlainB
import Derived.Deep.QuietTactic
import Derived.BigQuiet
import Derived.Laws.BytesArg
import Derived.WalkSpells
namespace Go.Proofs.Qxb6602115a
open Go.RowKit
open Pl

theorem byte_beq {p : Int} (h0 : 0 ≤ p) (h1 : p ≤ 255) (x : UInt8) : (UInt8.ofNat p.toNat == x) = (p == (x.toNat : Int)) := by
  rw [Bool.eq_iff_iff]
  simp only [beq_iff_eq]
  constructor
  · intro h
    have := congrArg UInt8.toNat h
    rw [UInt8.toNat_ofNat'] at this
    omega
  · intro h
    subst h
    rw [Int.toNat_natCast]
    exact UInt8.ofNat_toNat

theorem nums_toList (xs : List Int) : (strOfNums xs).toList = xs.map fun n => UInt8.ofNat n.toNat := by
  rw [ByteArray.toList_eq]; rfl

theorem three_eq {p q r : Int} (hp0 : 0 ≤ p) (hp1 : p ≤ 255) (hq0 : 0 ≤ q) (hq1 : q ≤ 255) (hr0 : 0 ≤ r) (hr1 : r ≤ 255) (x y v : UInt8) (h : (r == (v.toNat : Int)) = true) :
    ((strOfNums [p, q, r]).toList == [x, y, v]) = ((p == (x.toNat : Int)) && (q == (y.toNat : Int))) := by
  rw [nums_toList]
  show (UInt8.ofNat p.toNat == x && (UInt8.ofNat q.toNat == y && (UInt8.ofNat r.toNat == v && true))) = _
  rw [byte_beq hp0 hp1, byte_beq hq0 hq1, byte_beq hr0 hr1, h]
  simp

theorem two_eq {q r : Int} (hq0 : 0 ≤ q) (hq1 : q ≤ 255) (hr0 : 0 ≤ r) (hr1 : r ≤ 255) (y v : UInt8) (h : (r == (v.toNat : Int)) = true) :
    ((strOfNums [q, r]).toList == [y, v]) = (q == (y.toNat : Int)) := by
  rw [nums_toList]
  show (UInt8.ofNat q.toNat == y && (UInt8.ofNat r.toNat == v && true)) = _
  rw [byte_beq hq0 hq1, byte_beq hr0 hr1, h]
  simp

theorem ret_bool {a b : Bool} (h : a = b) : Ending.returned (.bool a) = .returned (.bool b) := by rw [h]

set_option maxHeartbeats 400000 in
theorem suffix3_short (a : Option Addr) (n c : Nat) (x y v : UInt8) (w : World) (h : n < 3) :
    Calls Try.prog 44 #[.slice a n c, .string ⟨#[x, y, v]⟩] w fun e w' => e = .returned (.bool false) ∧ ∃ m, w' = w.drewN m := by
  have hd : decide ((3 : Int) ≤ (n : Int)) = false := decide_eq_false (by omega)
  go_enter Try.func44, Try.ntmps44
  go_wp2
  go_big_quiet (fail)
  go_wp2
  go_ret
  exact ⟨rfl, _, rfl⟩

set_option maxHeartbeats 400000 in
theorem suffix3_last (b off n c : Nat) (x y v : UInt8) (z : Nat → Int) (w : World) (h : 3 ≤ n) (hn : n ≤ 9223372036854775807) (hne : (z (n - 1) == v.toNat) = false)
    (hc : ∀ k, k < n → w.cell? ⟨b, off + k, none⟩ = some (.int .u8 (z k))) :
    Calls Try.prog 44 #[.slice (some ⟨b, off, none⟩) n c, .string ⟨#[x, y, v]⟩] w fun e w' => e = .returned (.bool false) ∧ ∃ m, w' = w.drewN m := by
  obtain ⟨q, rfl⟩ : ∃ q, n = q + 3 := ⟨n - 3, by omega⟩
  have hd : (3 : Int) ≤ (q : Int) + 3 := by omega
  have hw1 : IntKind.i64.wrap ((q : Int) + 3 - 1) = (q : Int) + 2 := by rw [IntKind.wrap_i64]; omega
  have hw2 : IntKind.i64.wrap (q : Int) = (q : Int) := by rw [IntKind.wrap_i64]; omega
  have h2 : w.cell? ⟨b, off + (q + 2), none⟩ = some (.int .u8 (z (q + 2))) := hc _ (by omega)
  have hne' : (z (q + 2) == ((({ data := #[x, y, v] } : ByteArray)[2]'(by show 2 < 3; omega)).toNat : Int)) = false := hne
  clear hc hne
  go_enter Try.func44, Try.ntmps44
  go_wp2
  go_big_quiet (fail)
  go_wp2
  go_ret
  exact ⟨rfl, _, rfl⟩

set_option maxHeartbeats 400000 in
theorem suffix3_full (b off n c : Nat) (x y v : UInt8) (z : Nat → Int) (w : World) (h : 3 ≤ n) (hnc : n ≤ c) (hn : n ≤ 9223372036854775807) (hne : (z (n - 1) == v.toNat) = true)
    (hz : ∀ k, k < n → 0 ≤ z k ∧ z k ≤ 255) (hc : ∀ k, k < n → w.cell? ⟨b, off + k, none⟩ = some (.int .u8 (z k))) :
    Calls Try.prog 44 #[.slice (some ⟨b, off, none⟩) n c, .string ⟨#[x, y, v]⟩] w fun e w' => e = .returned (.bool (ends3 z n x.toNat y.toNat v.toNat)) ∧ ∃ m, w' = w.drewN m := by
  obtain ⟨q, rfl⟩ : ∃ q, n = q + 3 := ⟨n - 3, by omega⟩
  have hd : (3 : Int) ≤ (q : Int) + 3 := by omega
  have hw1 : IntKind.i64.wrap ((q : Int) + 3 - 1) = (q : Int) + 2 := by rw [IntKind.wrap_i64]; omega
  have hw2 : IntKind.i64.wrap (q : Int) = (q : Int) := by rw [IntKind.wrap_i64]; omega
  have h2 : w.cell? ⟨b, off + (q + 2), none⟩ = some (.int .u8 (z (q + 2))) := hc _ (by omega)
  have hne' : (z (q + 2) == ((({ data := #[x, y, v] } : ByteArray)[2]'(by show 2 < 3; omega)).toNat : Int)) = true := hne
  have hcv := fun nq => run_convert_bytes_arg (P := Try.prog) (w.drewN nq) 22 5 Try.underlying22 Try.underlying5 b (off + q) 3 (c - q) [z q, z (q + 1), z (q + 2)] rfl (by
    intro i hi
    show w.cell? _ = _
    match i, hi with
    | 0, _ => exact hc q (by omega)
    | 1, _ => exact hc (q + 1) (by omega)
    | 2, _ => exact hc (q + 2) (by omega)) 9 Try.underlying9
  have HE : Hid (((strOfNums [z q, z (q + 1), z (q + 2)]).toList == [x, y, v]) = ends3 z (q + 3) x.toNat y.toNat v.toNat) := by
    show _ = _
    rw [three_eq (hz q (by omega)).1 (hz q (by omega)).2 (hz (q + 1) (by omega)).1 (hz (q + 1) (by omega)).2 (hz (q + 2) (by omega)).1 (hz (q + 2) (by omega)).2 x y v hne]
    unfold ends3
    rw [show q + 3 - 1 = q + 2 from rfl, show q + 3 - 3 = q from rfl, show q + 3 - 2 = q + 1 from rfl] at *
    rw [hne, decide_eq_true h]
    simp
  clear hc hne hz
  go_enter Try.func44, Try.ntmps44
  go_wp2
  go_big_quiet (fail)
  go_wp2
  go_ret
  exact ⟨ret_bool HE.out, _, rfl⟩

/-- 'hasSuffix' at a suffix of three letters. -/
theorem suffix3 (a : Option Addr) (b off n c : Nat) (x y v : UInt8) (z : Nat → Int) (w : World) (hnc : n ≤ c) (hn : n ≤ 9223372036854775807) (ha : 0 < n → a = some ⟨b, off, none⟩)
    (hz : ∀ k, k < n → 0 ≤ z k ∧ z k ≤ 255) (hc : ∀ k, k < n → w.cell? ⟨b, off + k, none⟩ = some (.int .u8 (z k))) :
    Calls Try.prog 44 #[.slice a n c, .string ⟨#[x, y, v]⟩] w fun e w' => e = .returned (.bool (ends3 z n x.toNat y.toNat v.toNat)) ∧ ∃ m, w' = w.drewN m := by
  by_cases h : n < 3
  · have e : ends3 z n x.toNat y.toNat v.toNat = false := by unfold ends3; rw [decide_eq_false (by omega)]; rfl
    rw [e]
    exact suffix3_short a n c x y v w h
  obtain rfl := ha (by omega)
  cases hl : (z (n - 1) == (v.toNat : Int))
  · have e : ends3 z n x.toNat y.toNat v.toNat = false := by unfold ends3; rw [hl]; simp
    rw [e]
    exact suffix3_last b off n c x y v z w (by omega) hn hl hc
  · exact suffix3_full b off n c x y v z w (by omega) hnc hn hl hz hc

set_option maxHeartbeats 400000 in
theorem suffix2_short (a : Option Addr) (n c : Nat) (y v : UInt8) (w : World) (h : n < 2) :
    Calls Try.prog 44 #[.slice a n c, .string ⟨#[y, v]⟩] w fun e w' => e = .returned (.bool false) ∧ ∃ m, w' = w.drewN m := by
  have hd : decide ((2 : Int) ≤ (n : Int)) = false := decide_eq_false (by omega)
  go_enter Try.func44, Try.ntmps44
  go_wp2
  go_big_quiet (fail)
  go_wp2
  go_ret
  exact ⟨rfl, _, rfl⟩

set_option maxHeartbeats 400000 in
theorem suffix2_last (b off n c : Nat) (y v : UInt8) (z : Nat → Int) (w : World) (h : 2 ≤ n) (hn : n ≤ 9223372036854775807) (hne : (z (n - 1) == v.toNat) = false)
    (hc : ∀ k, k < n → w.cell? ⟨b, off + k, none⟩ = some (.int .u8 (z k))) :
    Calls Try.prog 44 #[.slice (some ⟨b, off, none⟩) n c, .string ⟨#[y, v]⟩] w fun e w' => e = .returned (.bool false) ∧ ∃ m, w' = w.drewN m := by
  obtain ⟨q, rfl⟩ : ∃ q, n = q + 2 := ⟨n - 2, by omega⟩
  have hd : (2 : Int) ≤ (q : Int) + 2 := by omega
  have hw1 : IntKind.i64.wrap ((q : Int) + 2 - 1) = (q : Int) + 1 := by rw [IntKind.wrap_i64]; omega
  have hw2 : IntKind.i64.wrap (q : Int) = (q : Int) := by rw [IntKind.wrap_i64]; omega
  have h2 : w.cell? ⟨b, off + (q + 1), none⟩ = some (.int .u8 (z (q + 1))) := hc _ (by omega)
  have hne' : (z (q + 1) == ((({ data := #[y, v] } : ByteArray)[1]'(by show 1 < 2; omega)).toNat : Int)) = false := hne
  clear hc hne
  go_enter Try.func44, Try.ntmps44
  go_wp2
  go_big_quiet (fail)
  go_wp2
  go_ret
  exact ⟨rfl, _, rfl⟩

set_option maxHeartbeats 400000 in
theorem suffix2_full (b off n c : Nat) (y v : UInt8) (z : Nat → Int) (w : World) (h : 2 ≤ n) (hnc : n ≤ c) (hn : n ≤ 9223372036854775807) (hne : (z (n - 1) == v.toNat) = true)
    (hz : ∀ k, k < n → 0 ≤ z k ∧ z k ≤ 255) (hc : ∀ k, k < n → w.cell? ⟨b, off + k, none⟩ = some (.int .u8 (z k))) :
    Calls Try.prog 44 #[.slice (some ⟨b, off, none⟩) n c, .string ⟨#[y, v]⟩] w fun e w' => e = .returned (.bool (ends2 z n y.toNat v.toNat)) ∧ ∃ m, w' = w.drewN m := by
  obtain ⟨q, rfl⟩ : ∃ q, n = q + 2 := ⟨n - 2, by omega⟩
  have hd : (2 : Int) ≤ (q : Int) + 2 := by omega
  have hw1 : IntKind.i64.wrap ((q : Int) + 2 - 1) = (q : Int) + 1 := by rw [IntKind.wrap_i64]; omega
  have hw2 : IntKind.i64.wrap (q : Int) = (q : Int) := by rw [IntKind.wrap_i64]; omega
  have h2 : w.cell? ⟨b, off + (q + 1), none⟩ = some (.int .u8 (z (q + 1))) := hc _ (by omega)
  have hne' : (z (q + 1) == ((({ data := #[y, v] } : ByteArray)[1]'(by show 1 < 2; omega)).toNat : Int)) = true := hne
  have hcv := fun nq => run_convert_bytes_arg (P := Try.prog) (w.drewN nq) 22 5 Try.underlying22 Try.underlying5 b (off + q) 2 (c - q) [z q, z (q + 1)] rfl (by
    intro i hi
    show w.cell? _ = _
    match i, hi with
    | 0, _ => exact hc q (by omega)
    | 1, _ => exact hc (q + 1) (by omega)) 9 Try.underlying9
  have HE : Hid (((strOfNums [z q, z (q + 1)]).toList == [y, v]) = ends2 z (q + 2) y.toNat v.toNat) := by
    show _ = _
    rw [two_eq (hz q (by omega)).1 (hz q (by omega)).2 (hz (q + 1) (by omega)).1 (hz (q + 1) (by omega)).2 y v hne]
    unfold ends2
    rw [show q + 2 - 1 = q + 1 from rfl, show q + 2 - 2 = q from rfl] at *
    rw [hne, decide_eq_true h]
    simp
  clear hc hne hz
  go_enter Try.func44, Try.ntmps44
  go_wp2
  go_big_quiet (fail)
  go_wp2
  go_ret
  exact ⟨ret_bool HE.out, _, rfl⟩

/-- 'hasSuffix' at a suffix of two letters. -/
theorem suffix2 (a : Option Addr) (b off n c : Nat) (y v : UInt8) (z : Nat → Int) (w : World) (hnc : n ≤ c) (hn : n ≤ 9223372036854775807) (ha : 0 < n → a = some ⟨b, off, none⟩)
    (hz : ∀ k, k < n → 0 ≤ z k ∧ z k ≤ 255) (hc : ∀ k, k < n → w.cell? ⟨b, off + k, none⟩ = some (.int .u8 (z k))) :
    Calls Try.prog 44 #[.slice a n c, .string ⟨#[y, v]⟩] w fun e w' => e = .returned (.bool (ends2 z n y.toNat v.toNat)) ∧ ∃ m, w' = w.drewN m := by
  by_cases h : n < 2
  · have e : ends2 z n y.toNat v.toNat = false := by unfold ends2; rw [decide_eq_false (by omega)]; rfl
    rw [e]
    exact suffix2_short a n c y v w h
  obtain rfl := ha (by omega)
  cases hl : (z (n - 1) == (v.toNat : Int))
  · have e : ends2 z n y.toNat v.toNat = false := by unfold ends2; rw [hl]; simp
    rw [e]
    exact suffix2_last b off n c y v z w (by omega) hn hl hc
  · exact suffix2_full b off n c y v z w (by omega) hnc hn hl hz hc

end Go.Proofs.Qxb6602115a
