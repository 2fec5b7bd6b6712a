/- FIRST OCCURRENCES: plain laws. No Go in sight. -/
import Derived.Test.Qxb6602115aTableB
namespace Go.Proofs.Qxb6602115a.Pl

/-- The first place from j on, among f, whose gram is the same as the one at i; j + f if there is none. -/
def foF (T : Nat → ByteArray) (H : Nat → Nat) (n i : Nat) : Nat → Nat → Nat
  | 0, j => j
  | f + 1, j => if sameG T H n j i = true then j else foF T H n i f (j + 1)

section
variable {T : Nat → ByteArray} {H : Nat → Nat} {n : Nat}

theorem foF_spec (i : Nat) : ∀ f j, j ≤ foF T H n i f j ∧ foF T H n i f j ≤ j + f ∧ (foF T H n i f j < j + f → sameG T H n (foF T H n i f j) i = true) ∧ ∀ r, j ≤ r → r < foF T H n i f j → sameG T H n r i = false
  | 0, j => ⟨Nat.le_refl _, Nat.le_refl _, fun h => absurd h (Nat.lt_irrefl _), fun r h1 h2 => absurd h2 (by show ¬ r < j; omega)⟩
  | f + 1, j => by
    unfold foF
    by_cases hs : sameG T H n j i = true
    · rw [if_pos hs]
      exact ⟨Nat.le_refl _, by omega, fun _ => hs, fun r h1 h2 => by omega⟩
    · rw [if_neg hs]
      obtain ⟨h1, h2, h3, h4⟩ := foF_spec i f (j + 1)
      refine ⟨by omega, by omega, fun h => h3 (by omega), fun r hr1 hr2 => ?_⟩
      by_cases e : r = j
      · rw [e]; simpa using hs
      · exact h4 r (by omega) hr2

/-- The first gram that is the same as the one at i. -/
def fo (T : Nat → ByteArray) (H : Nat → Nat) (n i : Nat) : Nat := foF T H n i i 0

theorem fo_le (i : Nat) : fo T H n i ≤ i := by have := (foF_spec (T := T) (H := H) (n := n) i i 0).2.1; simpa [fo] using this
theorem fo_same (i : Nat) : sameG T H n (fo T H n i) i = true := by
  by_cases h : fo T H n i = i
  · rw [h]; exact sameG_refl _ _ _ _
  · have h1 := fo_le (T := T) (H := H) (n := n) i
    exact (foF_spec (T := T) (H := H) (n := n) i i 0).2.2.1 (by unfold fo at h h1; omega)
theorem fo_before (i r : Nat) (h : r < fo T H n i) : sameG T H n r i = false := (foF_spec (T := T) (H := H) (n := n) i i 0).2.2.2 r (Nat.zero_le _) h

/-- Found at j. -/
theorem fo_found {i j : Nat} (hs : sameG T H n j i = true) (hb : ∀ r, r < j → sameG T H n r i = false) : fo T H n i = j := by
  rcases Nat.lt_trichotomy (fo T H n i) j with l | l | l
  · have := hb _ l; rw [fo_same] at this; cases this
  · exact l
  · have := fo_before _ _ l; rw [hs] at this; cases this
/-- Not found. -/
theorem fo_none {i : Nat} (hb : ∀ r, r < i → sameG T H n r i = false) : fo T H n i = i := by
  rcases Nat.lt_or_ge (fo T H n i) i with l | l
  · have := hb _ l; rw [fo_same] at this; cases this
  · exact Nat.le_antisymm (fo_le i) l

theorem fo_first (i : Nat) : (fo T H n i = i) ↔ isFirst T H n i = true := by
  rw [isFirst_iff]
  constructor
  · intro h r hr; exact fo_before i r (by omega)
  · exact fo_none

/-- Where p is the first of its kind: who comes to p? Just those that are the same. -/
theorem fo_iff {p q : Nat} (hp : ∀ r, r < p → sameG T H n r p = false) : fo T H n q = p ↔ sameG T H n p q = true := by
  constructor
  · intro h; rw [← h]; exact fo_same q
  · intro h
    have hpq : p ≤ q := by
      rcases Nat.lt_or_ge q p with l | l
      · have := hp q l; rw [sameG_symm h] at this; cases this
      · exact l
    rcases Nat.lt_trichotomy (fo T H n q) p with l | l | l
    · have := hp _ l
      rw [sameG_trans (fo_same q) (sameG_symm h)] at this; cases this
    · exact l
    · have := fo_before _ _ l; rw [h] at this; cases this

/-- How many of the grams before k come to p. -/
def oc (T : Nat → ByteArray) (H : Nat → Nat) (n p : Nat) : Nat → Nat
  | 0 => 0
  | k + 1 => oc T H n p k + (if fo T H n k = p then 1 else 0)
theorem oc_succ (p k : Nat) : oc T H n p (k + 1) = oc T H n p k + (if fo T H n k = p then 1 else 0) := rfl
theorem oc_le (p : Nat) : ∀ k, oc T H n p k ≤ k
  | 0 => Nat.le_refl _
  | k + 1 => by have := oc_le p k; rw [oc_succ]; split <;> omega
theorem oc_cnt {p : Nat} (hp : ∀ r, r < p → sameG T H n r p = false) : ∀ k, oc T H n p k = cnt T H n p k
  | 0 => rfl
  | k + 1 => by
    rw [oc_succ, cnt_succ, oc_cnt hp k]
    by_cases h : sameG T H n p k = true
    · rw [if_pos h, if_pos ((fo_iff hp).2 h)]
    · rw [if_neg h, if_neg (fun e => h ((fo_iff hp).1 e))]

theorem dist_hit {i : Nat} (h : fo T H n i = i) : dist T H n (i + 1) = dist T H n i + 1 := by rw [dist_succ, if_pos ((fo_first i).1 h)]
theorem dist_miss {i : Nat} (h : fo T H n i ≠ i) : dist T H n (i + 1) = dist T H n i := by
  rw [dist_succ, if_neg (fun e => h ((fo_first i).2 e)), Nat.add_zero]
end

theorem usedTo_le (S : Nat → Slot) : ∀ k, usedTo S k ≤ k
  | 0 => Nat.le_refl _
  | k + 1 => by have := usedTo_le S k; show _ + _ ≤ _; split <;> omega
theorem usedTo_free {S : Nat → Slot} {k : Nat} (h : (S k).free = true) : usedTo S (k + 1) = usedTo S k := by show _ + _ = _; rw [if_pos h]; rfl
theorem usedTo_taken {S : Nat → Slot} {k : Nat} (h : (S k).free = false) : usedTo S (k + 1) = usedTo S k + 1 := by show _ + _ = _; rw [h]; rfl

end Go.Proofs.Qxb6602115a.Pl
