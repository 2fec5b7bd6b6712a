/- THE TABLE OF GRAMS: plain laws. No Go in sight. -/
import Derived.Test.Qxb6602115aPlainG
import Derived.Laws.Strings
namespace Go.Proofs.Qxb6602115a.Pl

/-! ### The hash of a gram -/

/-- The hash of the words 0 .. k. -/
def ghN (H : Nat → Nat) : Nat → Nat
  | 0 => H 0
  | k + 1 => (ghN H k * 11400714819323198485 % 18446744073709551616) ^^^ H (k + 1)

theorem ghN_lt {H : Nat → Nat} {k : Nat} (h : ∀ j, j ≤ k → H j < 18446744073709551616) : ghN H k < 18446744073709551616 := by
  cases k with
  | zero => exact h 0 (Nat.le_refl _)
  | succ k => exact Nat.xor_lt_two_pow (n := 64) (Nat.mod_lt _ (by omega)) (h (k + 1) (Nat.le_refl _))

theorem ghN_congr {H H' : Nat → Nat} : ∀ {k : Nat}, (∀ j, j ≤ k → H j = H' j) → ghN H k = ghN H' k
  | 0, h => h 0 (Nat.le_refl _)
  | k + 1, h => by
    show _ ^^^ _ = _ ^^^ _
    rw [ghN_congr (k := k) (fun j hj => h j (by omega)), h (k + 1) (Nat.le_refl _)]

theorem mul_inj {x y : Nat} (hx : x < 18446744073709551616) (hy : y < 18446744073709551616)
    (h : x * 11400714819323198485 % 18446744073709551616 = y * 11400714819323198485 % 18446744073709551616) : x = y := by
  have key : ∀ z : Nat, z < 18446744073709551616 → z * 11400714819323198485 % 18446744073709551616 * 17428512612931826493 % 18446744073709551616 = z := by
    intro z hz
    rw [Nat.mul_mod, Nat.mod_mod, ← Nat.mul_mod, Nat.mul_assoc, show 11400714819323198485 * 17428512612931826493 = 1 + 18446744073709551616 * 10771413168148108919 from rfl, Nat.mul_add, Nat.mul_one, ← Nat.mul_assoc, Nat.mul_comm z, Nat.mul_assoc, Nat.add_mul_mod_self_left]
    exact Nat.mod_eq_of_lt hz
  rw [← key x hx, ← key y hy, h]

theorem xor_inj {a b c : Nat} (h : a ^^^ c = b ^^^ c) : a = b := by
  have := congrArg (· ^^^ c) h
  simpa [Nat.xor_assoc] using this

theorem ghN_inj {H H' : Nat → Nat} : ∀ {k : Nat}, (∀ j, j ≤ k → H j < 18446744073709551616) → (∀ j, j ≤ k → H' j < 18446744073709551616) → (∀ j, 1 ≤ j → j ≤ k → H j = H' j) → ghN H k = ghN H' k → H 0 = H' 0
  | 0, _, _, _, h => h
  | k + 1, b1, b2, hs, h => by
    have e : (ghN H k * 11400714819323198485 % 18446744073709551616) ^^^ H (k + 1) = (ghN H' k * 11400714819323198485 % 18446744073709551616) ^^^ H' (k + 1) := h
    rw [hs (k + 1) (by omega) (Nat.le_refl _)] at e
    exact ghN_inj (fun j hj => b1 j (by omega)) (fun j hj => b2 j (by omega)) (fun j h1 hj => hs j h1 (by omega))
      (mul_inj (ghN_lt fun j hj => b1 j (by omega)) (ghN_lt fun j hj => b2 j (by omega)) (xor_inj e))

/-! ### Grams -/

/-- Are the grams of n words at p and at q word for word the same? -/
def sameG (T : Nat → ByteArray) (H : Nat → Nat) (n p q : Nat) : Bool := allTo (fun k => sameW (T (p + k)) (H (p + k)) (T (q + k)) (H (q + k))) n

theorem toList_inj {a b : ByteArray} (h : a.toList = b.toList) : a = b := by
  rw [ByteArray.toList_eq, ByteArray.toList_eq] at h
  cases a with
  | mk x => cases b with
    | mk y => exact congrArg ByteArray.mk (Array.toList_inj.1 h)

theorem sameW_iff {s1 s2 : ByteArray} {h1 h2 : Nat} : sameW s1 h1 s2 h2 = true ↔ s1 = s2 ∧ h1 = h2 := by
  unfold sameW
  rw [Bool.and_eq_true, beq_iff_eq, beq_iff_eq]
  constructor
  · rintro ⟨a, b⟩; exact ⟨toList_inj b, by omega⟩
  · rintro ⟨rfl, rfl⟩; exact ⟨rfl, rfl⟩

theorem sameG_iff {T : Nat → ByteArray} {H : Nat → Nat} {n p q : Nat} : sameG T H n p q = true ↔ ∀ k, k < n → T (p + k) = T (q + k) ∧ H (p + k) = H (q + k) := by
  unfold sameG
  rw [allTo_iff]
  exact ⟨fun h k hk => sameW_iff.1 (h k hk), fun h k hk => sameW_iff.2 (h k hk)⟩

theorem sameG_refl (T : Nat → ByteArray) (H : Nat → Nat) (n p : Nat) : sameG T H n p p = true := sameG_iff.2 fun _ _ => ⟨rfl, rfl⟩
theorem sameG_symm {T : Nat → ByteArray} {H : Nat → Nat} {n p q : Nat} (h : sameG T H n p q = true) : sameG T H n q p = true :=
  sameG_iff.2 fun k hk => ⟨(sameG_iff.1 h k hk).1.symm, (sameG_iff.1 h k hk).2.symm⟩
theorem sameG_trans {T : Nat → ByteArray} {H : Nat → Nat} {n p q r : Nat} (h : sameG T H n p q = true) (h' : sameG T H n q r = true) : sameG T H n p r = true :=
  sameG_iff.2 fun k hk => ⟨(sameG_iff.1 h k hk).1.trans (sameG_iff.1 h' k hk).1, (sameG_iff.1 h k hk).2.trans (sameG_iff.1 h' k hk).2⟩

/-- The hash of the gram at i. -/
def gh (H : Nat → Nat) (n i : Nat) : Nat := ghN (fun k => H (i + k)) (n - 1)

/-- WHETHER A SLOT THAT HOLDS THE GRAM AT p TAKES THE GRAM AT i: just where the two are the same. -/
theorem takes_iff {T : Nat → ByteArray} {H : Nat → Nat} {n i p c : Nat} (h1 : 1 ≤ n) (hb : ∀ k, k < n → H (p + k) < 18446744073709551616) (hb' : ∀ k, k < n → H (i + k) < 18446744073709551616)
    (hne : (T p).toList.isEmpty = false) : takes T H n i (gh H n i) ⟨T p, gh H n p, p, c⟩ = sameG T H n p i := by
  rw [Bool.eq_iff_iff, sameG_iff]
  unfold takes
  simp only [hne, Bool.false_or, Bool.and_eq_true, Bool.or_eq_true, beq_iff_eq, allTo_iff]
  constructor
  · rintro ⟨⟨e1, e2⟩, e3⟩
    have eT : T p = T i := toList_inj e2
    have rest : ∀ k, 1 ≤ k → k < n → T (p + k) = T (i + k) ∧ H (p + k) = H (i + k) := by
      intro k k1 kn
      rcases e3 with e3 | e3
      · omega
      · have := sameW_iff.1 (e3 (k - 1) (by omega))
        rw [show p + 1 + (k - 1) = p + k by omega, show i + 1 + (k - 1) = i + k by omega] at this
        exact this
    have e1' : gh H n p = gh H n i := by omega
    have eH : H (p + 0) = H (i + 0) := ghN_inj (H := fun k => H (p + k)) (H' := fun k => H (i + k)) (k := n - 1) (fun j hj => hb j (by omega)) (fun j hj => hb' j (by omega)) (fun j j1 hj => (rest j j1 (by omega)).2) e1'
    intro k hk
    by_cases k0 : k = 0
    · subst k0; exact ⟨eT, eH⟩
    · exact rest k (by omega) hk
  · intro h
    have e1 : gh H n p = gh H n i := ghN_congr (fun j hj => (h j (by omega)).2)
    refine ⟨⟨by rw [e1], by rw [show T p = T i from (h 0 (by omega)).1]⟩, .inr fun k hk => ?_⟩
    rw [show p + 1 + k = p + (k + 1) by omega, show i + 1 + k = i + (k + 1) by omega]
    exact sameW_iff.2 (h (k + 1) (by omega))

/-! ### Counting -/

/-- How many of the grams before i are the same as the one at p. -/
def cnt (T : Nat → ByteArray) (H : Nat → Nat) (n p : Nat) : Nat → Nat
  | 0 => 0
  | i + 1 => cnt T H n p i + (if sameG T H n p i = true then 1 else 0)
/-- Is there no gram before i that is the same? -/
def isFirst (T : Nat → ByteArray) (H : Nat → Nat) (n i : Nat) : Bool := allTo (fun r => !sameG T H n r i) i
theorem isFirst_iff {T : Nat → ByteArray} {H : Nat → Nat} {n i : Nat} : isFirst T H n i = true ↔ ∀ r, r < i → sameG T H n r i = false := by
  unfold isFirst
  rw [allTo_iff]
  simp
/-- How many different grams there are before i. -/
def dist (T : Nat → ByteArray) (H : Nat → Nat) (n : Nat) : Nat → Nat
  | 0 => 0
  | i + 1 => dist T H n i + (if isFirst T H n i = true then 1 else 0)
theorem dist_le (T : Nat → ByteArray) (H : Nat → Nat) (n : Nat) : ∀ i, dist T H n i ≤ i
  | 0 => Nat.le_refl _
  | i + 1 => by have := dist_le T H n i; show _ + _ ≤ _; split <;> omega
theorem cnt_none {T : Nat → ByteArray} {H : Nat → Nat} {n p : Nat} : ∀ {i : Nat}, (∀ r, r < i → sameG T H n p r = false) → cnt T H n p i = 0
  | 0, _ => rfl
  | i + 1, h => by show _ + _ = _; rw [cnt_none (i := i) (fun r hr => h r (by omega)), h i (by omega)]; rfl

/-- Is the slot free? -/
def Slot.free (x : Slot) : Bool := x.first.toList.isEmpty
/-- How many of the slots before k are taken. -/
def usedTo (S : Nat → Slot) : Nat → Nat
  | 0 => 0
  | k + 1 => usedTo S k + (if (S k).free = true then 0 else 1)
theorem usedTo_full {S : Nat → Slot} : ∀ {k : Nat}, (∀ j, j < k → (S j).free = false) → usedTo S k = k
  | 0, _ => rfl
  | k + 1, h => by show _ + _ = _; rw [usedTo_full (k := k) (fun j hj => h j (by omega)), h k (by omega)]; rfl
theorem usedTo_congr {S S' : Nat → Slot} : ∀ {k : Nat}, (∀ j, j < k → (S j).free = (S' j).free) → usedTo S k = usedTo S' k
  | 0, _ => rfl
  | k + 1, h => by show _ + _ = _ + _; rw [usedTo_congr (k := k) (fun j hj => h j (by omega)), h k (by omega)]
theorem usedTo_take {S S' : Nat → Slot} {a : Nat} (ha : (S a).free = true) (ha' : (S' a).free = false) (ho : ∀ j, j ≠ a → (S j).free = (S' j).free) : ∀ {k : Nat}, a < k → usedTo S' k = usedTo S k + 1
  | 0, h => absurd h (by omega)
  | k + 1, h => by
    show _ + _ = _ + _ + 1
    by_cases e : a = k
    · subst e
      rw [usedTo_congr (S := S') (S' := S) (k := a) (fun j hj => (ho j (by omega)).symm), ha, ha']; simp
    · rw [usedTo_take ha ha' ho (k := k) (by omega), ho k (by omega)]; omega

/-- The least number that answers yes, given one. -/
theorem least {P : Nat → Bool} (m : Nat) : P m = true → ∃ D, D ≤ m ∧ P D = true ∧ ∀ d, d < D → P d = false := by
  induction m using Nat.strongRecOn with
  | ind m ih =>
    intro h
    by_cases e : ∃ d, d < m ∧ P d = true
    · obtain ⟨d, hd, hp⟩ := e
      obtain ⟨D, h1, h2, h3⟩ := ih d hd hp
      exact ⟨D, by omega, h2, h3⟩
    · refine ⟨m, Nat.le_refl _, h, fun d hd => ?_⟩
      cases hp : P d
      · rfl
      · exact absurd ⟨d, hd, hp⟩ e

/-! ### The table -/

/-- What a taken slot says: the first gram of its kind. -/
structure Taken (T : Nat → ByteArray) (H : Nat → Nat) (n i : Nat) (x : Slot) : Prop where
  lt : x.start < i
  first : x.first = T x.start
  hash : x.hash = gh H n x.start
  count : x.count = cnt T H n x.start i
  one : 1 ≤ x.count
  head : ∀ r, r < x.start → sameG T H n r x.start = false

/-- THE TABLE BEHIND THE FIRST i GRAMS. -/
structure Inv (T : Nat → ByteArray) (H : Nat → Nat) (n N i : Nat) (S : Nat → Slot) : Prop where
  empty : ∀ j, j < N → (S j).free = true → S j = ⟨ByteArray.empty, 0, 0, 0⟩
  taken : ∀ j, j < N → (S j).free = false → Taken T H n i (S j)
  uniq : ∀ j j', j < N → j' < N → (S j).free = false → (S j').free = false → (S j).start = (S j').start → j = j'
  path : ∀ q, q < i → ∃ d, d < N ∧ (S ((gh H n q + d) % N)).free = false ∧ sameG T H n (S ((gh H n q + d) % N)).start q = true ∧ ∀ d', d' < d → (S ((gh H n q + d') % N)).free = false
  used : usedTo S N = dist T H n i

theorem free_empty : (⟨ByteArray.empty, 0, 0, 0⟩ : Slot).free = true := by
  unfold Slot.free; rw [ByteArray.toList_eq]; rfl

theorem Inv.start (T : Nat → ByteArray) (H : Nat → Nat) (n N : Nat) : Inv T H n N 0 (fun _ => ⟨ByteArray.empty, 0, 0, 0⟩) := by
  refine ⟨fun _ _ _ => rfl, fun j _ h => ?_, fun j j' _ _ h => ?_, fun q h => absurd h (by omega), ?_⟩
  · rw [free_empty] at h; cases h
  · rw [free_empty] at h; cases h
  · show _ = 0
    induction N with
    | zero => rfl
    | succ k ih => show _ + _ = 0; rw [ih, free_empty]; rfl

section
variable {T : Nat → ByteArray} {H : Nat → Nat} {n N i : Nat} {S : Nat → Slot}

/-- Two taken slots that hold a gram that is the same as q's are one. -/
theorem Inv.one (h : Inv T H n N i S) {j j' q : Nat} (hj : j < N) (hj' : j' < N) (f : (S j).free = false) (f' : (S j').free = false)
    (s : sameG T H n (S j).start q = true) (s' : sameG T H n (S j').start q = true) : j = j' := by
  have t := h.taken j hj f
  have t' := h.taken j' hj' f'
  have e := sameG_trans s (sameG_symm s')
  refine h.uniq j j' hj hj' f f' ?_
  rcases Nat.lt_trichotomy (S j).start (S j').start with l | l | l
  · have := t'.head _ l; rw [e] at this; cases this
  · exact l
  · have := t.head _ l; rw [sameG_symm e] at this; cases this

/-- There is a free slot while fewer grams than slots are in. -/
theorem Inv.room (h : Inv T H n N i S) (hi : i < N) : ∃ j, j < N ∧ (S j).free = true := by
  by_cases e : ∃ j, j < N ∧ (S j).free = true
  · exact e
  · exfalso
    have hf : ∀ j, j < N → (S j).free = false := fun j hj => by
      cases hh : (S j).free
      · rfl
      · exact absurd ⟨j, hj, hh⟩ e
    have h1 := usedTo_full hf
    have h2 := dist_le T H n i
    have h3 := h.used
    omega

/-- WHERE THE PROBE ENDS. -/
theorem Inv.probe (h : Inv T H n N i S) (hi : i < N) (x : Nat) :
    ∃ D, D < N ∧ takes T H n i x (S ((x + D) % N)) = true ∧ ∀ d, d < D → takes T H n i x (S ((x + d) % N)) = false := by
  obtain ⟨j, hj, hf⟩ := h.room hi
  have hN : 0 < N := by omega
  have e : (x + (j + N - x % N) % N) % N = j := by
    rw [Nat.add_mod_mod, ← Nat.mod_add_mod]
    have hx := Nat.mod_lt x hN
    rw [show x % N + (j + N - x % N) = j + N by omega, Nat.add_mod_right, Nat.mod_eq_of_lt hj]
  obtain ⟨D, h1, h2, h3⟩ := least (P := fun d => takes T H n i x (S ((x + d) % N))) ((j + N - x % N) % N) (by simp only [e]; exact takes_empty hf)
  exact ⟨D, Nat.lt_of_le_of_lt h1 (Nat.mod_lt _ hN), h2, h3⟩

theorem slot_eta (x : Slot) : x = ⟨x.first, x.hash, x.start, x.count⟩ := by cases x; rfl

/-- A taken slot takes the gram at i just where it holds the same. -/
theorem Inv.takes_same (h : Inv T H n N i S) {m : Nat} (h1 : 1 ≤ n) (hH : ∀ k, k < m → H k < 18446744073709551616) (him : i + n ≤ m) {j : Nat} (hj : j < N) (f : (S j).free = false) :
    takes T H n i (gh H n i) (S j) = sameG T H n (S j).start i := by
  have t := h.taken j hj f
  have e : S j = ⟨T (S j).start, gh H n (S j).start, (S j).start, (S j).count⟩ := by
    rw [← t.first, ← t.hash]
  have hne : (T (S j).start).toList.isEmpty = false := by rw [← t.first]; exact f
  rw [e]
  have hl := t.lt
  exact takes_iff h1 (fun k hk => hH _ (by omega)) (fun k hk => hH _ (by omega)) hne

end

end Go.Proofs.Qxb6602115a.Pl
