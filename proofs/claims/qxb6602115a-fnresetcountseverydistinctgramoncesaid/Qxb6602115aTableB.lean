/- ONE GRAM MORE IN THE TABLE: plain laws. No Go in sight. -/
import Derived.Test.Qxb6602115aTable
namespace Go.Proofs.Qxb6602115a.Pl

def upd (S : Nat → Slot) (a : Nat) (x : Slot) (j : Nat) : Slot := if j = a then x else S j
theorem upd_at (S : Nat → Slot) (a : Nat) (x : Slot) : upd S a x a = x := if_pos rfl
theorem upd_other {S : Nat → Slot} {a j : Nat} {x : Slot} (h : j ≠ a) : upd S a x j = S j := if_neg h

section
variable {T : Nat → ByteArray} {H : Nat → Nat} {n N i D m : Nat} {S : Nat → Slot}

theorem cnt_succ (T : Nat → ByteArray) (H : Nat → Nat) (n p i : Nat) : cnt T H n p (i + 1) = cnt T H n p i + (if sameG T H n p i = true then 1 else 0) := rfl
theorem dist_succ (T : Nat → ByteArray) (H : Nat → Nat) (n i : Nat) : dist T H n (i + 1) = dist T H n i + (if isFirst T H n i = true then 1 else 0) := rfl

/-- A taken slot whose gram is not the same as the new one. -/
theorem Taken.more {x : Slot} (t : Taken T H n i x) (hs : sameG T H n x.start i = false) : Taken T H n (i + 1) x :=
  ⟨by have := t.lt; omega, t.first, t.hash, by rw [cnt_succ, hs, t.count]; simp, t.one, t.head⟩

theorem gh_same {p q : Nat} (h1 : 1 ≤ n) (h : sameG T H n p q = true) : gh H n p = gh H n q :=
  ghN_congr fun j hj => ((sameG_iff.1 h) j (by omega)).2

/-- THE GRAM AT i IS IN NO SLOT: its place is free, and it is the first of its kind. -/
theorem Inv.fresh (h : Inv T H n N i S) (h1 : 1 ≤ n) (hH : ∀ k, k < m → H k < 18446744073709551616) (him : i + n ≤ m) (hN : 0 < N)
    (hf : (S ((gh H n i + D) % N)).free = true) (hno : ∀ d, d < D → takes T H n i (gh H n i) (S ((gh H n i + d) % N)) = false) :
    ∀ r, r < i → sameG T H n r i = false := by
  intro r hr
  cases hs : sameG T H n r i
  · rfl
  exfalso
  obtain ⟨d, hd, f, s, before⟩ := h.path r hr
  rw [gh_same h1 hs] at f s before
  have ht := h.takes_same h1 hH him (Nat.mod_lt _ hN) f
  rw [sameG_trans s hs] at ht
  rcases Nat.lt_trichotomy d D with l | l | l
  · have := hno d l; rw [ht] at this; cases this
  · subst l; rw [hf] at f; cases f
  · have := before D l; rw [hf] at this; cases this

/-- .. so it is laid there. -/
theorem Inv.lay (h : Inv T H n N i S) (h1 : 1 ≤ n) (hH : ∀ k, k < m → H k < 18446744073709551616) (him : i + n ≤ m) (hD : D < N) (hTi : (T i).toList.isEmpty = false)
    (hf : (S ((gh H n i + D) % N)).free = true) (hno : ∀ d, d < D → takes T H n i (gh H n i) (S ((gh H n i + d) % N)) = false) :
    Inv T H n N (i + 1) (upd S ((gh H n i + D) % N) ⟨T i, gh H n i, i, 1⟩) := by
  have hN : 0 < N := by omega
  have fr := h.fresh h1 hH him hN hf hno
  have ha : (gh H n i + D) % N < N := Nat.mod_lt _ hN
  generalize hae : (gh H n i + D) % N = a at *
  have hx : (⟨T i, gh H n i, i, 1⟩ : Slot).free = false := hTi
  have hold : ∀ j, j < N → (S j).free = false → sameG T H n (S j).start i = false := fun j hj f => fr _ (h.taken j hj f).lt
  refine ⟨fun j hj f => ?_, fun j hj f => ?_, fun j j' hj hj' f f' e => ?_, fun q hq => ?_, ?_⟩
  · by_cases e : j = a
    · subst e; rw [upd_at, hx] at f; cases f
    · rw [upd_other e] at f ⊢; exact h.empty j hj f
  · by_cases e : j = a
    · subst e
      rw [upd_at]
      refine ⟨by show i < i + 1; omega, rfl, rfl, ?_, Nat.le_refl _, fr⟩
      show 1 = cnt T H n i (i + 1)
      rw [cnt_succ, sameG_refl, cnt_none (fun r hr => ?_)]
      · rfl
      · cases hs : sameG T H n i r
        · rfl
        · have := fr r hr; rw [sameG_symm hs] at this; cases this
    · rw [upd_other e] at f ⊢; exact (h.taken j hj f).more (hold j hj f)
  · by_cases ej : j = a
    · by_cases ej' : j' = a
      · rw [ej, ej']
      · rw [upd_other ej'] at f' e
        rw [ej, upd_at] at e
        have := (h.taken j' hj' f').lt
        simp only at e
        omega
    · rw [upd_other ej] at f e
      by_cases ej' : j' = a
      · rw [ej', upd_at] at e
        have := (h.taken j hj f).lt
        simp only at e
        omega
      · rw [upd_other ej'] at f' e
        exact h.uniq j j' hj hj' f f' e
  · have hkeep : ∀ j, (S j).free = false → (upd S a ⟨T i, gh H n i, i, 1⟩ j).free = false := fun j f => by
      by_cases e : j = a
      · subst e; rw [upd_at]; exact hx
      · rw [upd_other e]; exact f
    by_cases e : q = i
    · subst e
      refine ⟨D, hD, ?_, ?_, fun d' hd' => ?_⟩
      · rw [hae, upd_at]; exact hx
      · rw [hae, upd_at]; exact sameG_refl _ _ _ _
      · apply hkeep
        cases hh : (S ((gh H n q + d') % N)).free
        · rfl
        · have := hno d' hd'; rw [takes_empty hh] at this; cases this
    · obtain ⟨d, hd, f, s, before⟩ := h.path q (by omega)
      refine ⟨d, hd, hkeep _ f, ?_, fun d' hd' => hkeep _ (before d' hd')⟩
      rw [upd_other (fun e => by rw [e, hf] at f; cases f)]
      exact s
  · rw [usedTo_take (S := S) (a := a) hf (by rw [upd_at]; exact hx) (fun j hj => by rw [upd_other hj]) ha, h.used, dist_succ, if_pos (isFirst_iff.2 fr)]

/-- THE GRAM AT i IS IN THE SLOT AT WHICH THE PROBE ENDS: it is counted once more. -/
theorem Inv.again (h : Inv T H n N i S) (h1 : 1 ≤ n) (hH : ∀ k, k < m → H k < 18446744073709551616) (him : i + n ≤ m) (hD : D < N)
    (hf : (S ((gh H n i + D) % N)).free = false) (ht : takes T H n i (gh H n i) (S ((gh H n i + D) % N)) = true) (hno : ∀ d, d < D → takes T H n i (gh H n i) (S ((gh H n i + d) % N)) = false) :
    Inv T H n N (i + 1) (upd S ((gh H n i + D) % N) ⟨(S ((gh H n i + D) % N)).first, (S ((gh H n i + D) % N)).hash, (S ((gh H n i + D) % N)).start, (S ((gh H n i + D) % N)).count + 1⟩) := by
  have hN : 0 < N := by omega
  have ha : (gh H n i + D) % N < N := Nat.mod_lt _ hN
  have hs := h.takes_same h1 hH him ha hf
  rw [ht] at hs
  generalize hae : (gh H n i + D) % N = a at *
  generalize hxe : (⟨(S a).first, (S a).hash, (S a).start, (S a).count + 1⟩ : Slot) = x
  have x1 : x.first = (S a).first := by rw [← hxe]
  have x2 : x.hash = (S a).hash := by rw [← hxe]
  have x3 : x.start = (S a).start := by rw [← hxe]
  have x4 : x.count = (S a).count + 1 := by rw [← hxe]
  have hx : x.free = false := by unfold Slot.free; rw [x1]; exact hf
  have hfree : ∀ j, (upd S a x j).free = (S j).free := fun j => by
    by_cases e : j = a
    · rw [e, upd_at, hx, hf]
    · rw [upd_other e]
  have hstart : ∀ j, (upd S a x j).start = (S j).start := fun j => by
    by_cases e : j = a
    · rw [e, upd_at, x3]
    · rw [upd_other e]
  refine ⟨fun j hj f => ?_, fun j hj f => ?_, fun j j' hj hj' f f' e => ?_, fun q hq => ?_, ?_⟩
  · by_cases e : j = a
    · subst e; rw [upd_at, hx] at f; cases f
    · rw [upd_other e] at f ⊢; exact h.empty j hj f
  · by_cases e : j = a
    · subst e
      rw [upd_at]
      have t := h.taken j hj hf
      refine ⟨by rw [x3]; have := t.lt; omega, by rw [x1, x3]; exact t.first, by rw [x2, x3]; exact t.hash, ?_, by rw [x4]; omega, by rw [x3]; exact t.head⟩
      rw [x3, x4, cnt_succ, ← hs, t.count]; simp
    · rw [upd_other e] at f ⊢
      refine (h.taken j hj f).more ?_
      cases hh : sameG T H n (S j).start i
      · rfl
      · exact absurd (h.one hj ha f hf hh hs.symm) e
  · rw [hfree] at f f'
    rw [hstart, hstart] at e
    exact h.uniq j j' hj hj' f f' e
  · by_cases e : q = i
    · subst e
      refine ⟨D, hD, ?_, ?_, fun d' hd' => ?_⟩
      · rw [hfree, hae]; exact hf
      · rw [hstart, hae]; exact hs.symm
      · rw [hfree]
        cases hh : (S ((gh H n q + d') % N)).free
        · rfl
        · have := hno d' hd'; rw [takes_empty hh] at this; cases this
    · obtain ⟨d, hd, f, s, before⟩ := h.path q (by omega)
      refine ⟨d, hd, by rw [hfree]; exact f, by rw [hstart]; exact s, fun d' hd' => by rw [hfree]; exact before d' hd'⟩
  · have hnf : isFirst T H n i = false := by
      cases hh : isFirst T H n i
      · rfl
      · have := isFirst_iff.1 hh _ (h.taken a ha hf).lt
        rw [← hs] at this; cases this
    rw [usedTo_congr (S' := S) (fun j _ => hfree j), h.used, dist_succ, hnf]; simp

end

end Go.Proofs.Qxb6602115a.Pl
