/- WORDS, GRAMS: plain functions. No Go in sight. -/
namespace Go.Proofs.Qxb6602115a.Pl

/-- Do all places below k answer yes? -/
def allTo (f : Nat → Bool) : Nat → Bool
  | 0 => true
  | k + 1 => allTo f k && f k
theorem allTo_succ (f : Nat → Bool) (k : Nat) : allTo f (k + 1) = (allTo f k && f k) := rfl
theorem allTo_iff (f : Nat → Bool) (k : Nat) : allTo f k = true ↔ ∀ j, j < k → f j = true := by
  induction k with
  | zero => exact ⟨fun _ j h => absurd h (by omega), fun _ => rfl⟩
  | succ m ih =>
    rw [allTo_succ, Bool.and_eq_true, ih]
    constructor
    · rintro ⟨h1, h2⟩ j hj
      by_cases e : j = m
      · subst e; exact h2
      · exact h1 j (by omega)
    · intro h
      exact ⟨fun j hj => h j (by omega), h m (by omega)⟩
theorem allTo_false {f : Nat → Bool} {j k : Nat} (hj : j < k) (h : f j = false) : allTo f k = false := by
  cases e : allTo f k
  · rfl
  · have := (allTo_iff f k).1 e j hj
    rw [h] at this; cases this

/-- Are two words the same? As 'is' has it. -/
def sameW (s1 : ByteArray) (h1 : Int) (s2 : ByteArray) (h2 : Int) : Bool := (h1 == h2) && (s1.toList == s2.toList)

/-- A slot of the table. -/
structure Slot where
  first : ByteArray
  hash : Nat
  start : Nat
  count : Nat

/-- DOES SLOT x TAKE THE GRAM of n words at i whose hash is h? It is empty, or it holds that gram. -/
def takes (T : Nat → ByteArray) (H : Nat → Nat) (n i h : Nat) (x : Slot) : Bool :=
  x.first.toList.isEmpty || (((x.hash : Int) == (h : Int)) && (x.first.toList == (T i).toList) &&
    (((n : Int) == 1) || allTo (fun k => sameW (T (x.start + 1 + k)) (H (x.start + 1 + k)) (T (i + 1 + k)) (H (i + 1 + k))) (n - 1)))

theorem takes_empty {T : Nat → ByteArray} {H : Nat → Nat} {n i h : Nat} {x : Slot} (he : x.first.toList.isEmpty = true) : takes T H n i h x = true := by
  unfold takes; rw [he]; rfl
theorem takes_hash {T : Nat → ByteArray} {H : Nat → Nat} {n i h : Nat} {x : Slot} (he : x.first.toList.isEmpty = false) (hh : ((x.hash : Int) == (h : Int)) = false) : takes T H n i h x = false := by
  unfold takes; rw [he, hh]; rfl
theorem takes_first {T : Nat → ByteArray} {H : Nat → Nat} {n i h : Nat} {x : Slot} (he : x.first.toList.isEmpty = false) (hf : (x.first.toList == (T i).toList) = false) : takes T H n i h x = false := by
  unfold takes; rw [he, hf]; simp
theorem takes_one {T : Nat → ByteArray} {H : Nat → Nat} {n i h : Nat} {x : Slot} (hh : ((x.hash : Int) == (h : Int)) = true) (hf : (x.first.toList == (T i).toList) = true) (h1 : ((n : Int) == 1) = true) : takes T H n i h x = true := by
  unfold takes; rw [hh, hf, h1]; simp
theorem takes_more {T : Nat → ByteArray} {H : Nat → Nat} {n i h : Nat} {x : Slot} (he : x.first.toList.isEmpty = false) (hh : ((x.hash : Int) == (h : Int)) = true) (hf : (x.first.toList == (T i).toList) = true) (h1 : ((n : Int) == 1) = false) :
    takes T H n i h x = allTo (fun k => sameW (T (x.start + 1 + k)) (H (x.start + 1 + k)) (T (i + 1 + k)) (H (i + 1 + k))) (n - 1) := by
  unfold takes; rw [he, hh, hf, h1]; simp

end Go.Proofs.Qxb6602115a.Pl
