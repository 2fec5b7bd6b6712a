/- OWN ROWS: a copy into a row that the call itself made; what else stays. No program. -/
import Derived.Laws.CopyOwn
import Derived.Deep.OwnRows
import Derived.Below
namespace Go.Proofs.Qxb6602115a
open Go.RowKit

/-- The two worlds part in block g alone. -/
structure Only (g : Nat) (w w' : World) : Prop where
  os : w'.os = w.os
  tape : w'.tape = w.tape
  output : w'.output = w.output
  size : w'.heap.size = w.heap.size
  block : ∀ k, k ≠ g → w'.heap[k]? = w.heap[k]?

theorem Only.refl (g : Nat) (w : World) : Only g w w := ⟨rfl, rfl, rfl, rfl, fun _ _ => rfl⟩
theorem Only.trans {g : Nat} {a b c : World} (h : Only g a b) (k : Only g b c) : Only g a c :=
  ⟨k.os.trans h.os, k.tape.trans h.tape, k.output.trans h.output, k.size.trans h.size, fun i hi => (k.block i hi).trans (h.block i hi)⟩
theorem Only.drew {g : Nat} {a b : World} (h : Only g a b) : Only g a b.drew := ⟨h.os, h.tape, h.output, h.size, h.block⟩
theorem Only.setCell {g : Nat} {a b : World} (h : Only g a b) (i : Nat) (v : Value) : Only g a (b.setCell ⟨g, i, none⟩ v) :=
  h.trans ⟨rfl, rfl, rfl, by simp [World.setCell], fun k hk => Below.heap_setCell _ _ _ _ hk⟩
theorem Only.below {g B : Nat} {w0 a b : World} (h : Only g a b) (hb : Below B w0 a) (hB : B ≤ g) : Below B w0 b :=
  hb.trans ⟨h.os, h.tape, h.output, Nat.le_of_eq h.size.symm, fun k hk => h.block k (by omega)⟩
theorem Only.row {g b : Nat} {t : TypeId} {n : Nat} {f : Nat → Value} {w w' : World} (h : Only g w w') (hr : w.rowIs b t n f) (hne : b ≠ g) : w'.rowIs b t n f :=
  hr.of_block (h.block b hne)
theorem below_row {B b : Nat} {t : TypeId} {n : Nat} {f : Nat → Value} {w w' : World} (h : Below B w w') (hr : w.rowIs b t n f) (hlt : b < B) : w'.rowIs b t n f :=
  hr.of_block (h.block b hlt)

/-- 'copy(dst, src)', dst from the head of an own row of N cells on, src whatever: the first m = min(len(src), len(dst)) cells are src's. -/
theorem wpList_copy_rows {P : Program} {w : World} {ops : Array Oper} {rest : List Oper} {o : Oper} {a : Act} {Q : Exit → Act → World → Prop} (hgd : o.guard = none) (d s : Operand) (dT sT : TypeId)
    (ho : o.op = .call { callee := .builtin .copy, args := #[d, s], argTypes := #[dT, sT] }) (elem : TypeId) (hu : P.underlying dT = some (.slice elem)) (hsz : (P.info? elem).map (·.size) = some 1)
    (g dLen dCap : Nat) (sp : Option Addr) (sLen sCap : Nat) (hd : a.eval d = .slice (some ⟨g, 0, none⟩) dLen dCap) (hs : a.eval s = .slice sp sLen sCap)
    (t : TypeId) (N : Nat) (f0 : Nat → Value) (hrow : w.rowIs g t N f0) (m : Nat) (hm : m = Nat.min sLen dLen) (hfit : m ≤ N) (f : Nat → Value) (b off : Nat)
    (hsp : 0 < m → sp = some ⟨b, off, none⟩) (hsrc : ∀ k, k < m → w.cell? ⟨b, off + k, none⟩ = some (f k)) (h1 : ∀ k, k < m → (f k).oneCell' = true)
    (h : ∀ w', w'.rowIs g t N (fun k => if k < m then f k else f0 k) → Only g w w' → wpList P ops Q rest (a.put o.dst (goInt m)) w') :
    wpList P ops Q (o :: rest) a w := by
  by_cases h0 : m = 0
  · subst h0
    refine wpList_copy_nothing hgd d s dT sT ho elem hu hsz _ sp dLen dCap sLen sCap hd hs hm.symm ?_
    exact h w (hrow.congr (fun i _ => by simp)) (Only.refl _ _)
  · obtain rfl := hsp (by omega)
    obtain ⟨cur, hg, hN, hcur⟩ := hrow
    have hlen : ((List.range m).map f).length = Nat.min sLen dLen := by simp [hm]
    refine wpList_copy_own hgd d s dT sT ho elem hu hsz g 0 dLen dCap ⟨b, off, none⟩ sLen sCap hd hs cur t hg ((List.range m).map f) hlen ?_ (by simp; omega) ?_ ?_
    · intro j v hv
      obtain ⟨hj, e⟩ := List.getElem?_eq_some_iff.1 hv
      simp at hj e
      subst e
      rw [Addr.add_lit]; exact hsrc j hj
    · intro v hv
      obtain ⟨k, hk, rfl⟩ := List.mem_map.1 hv
      exact h1 k (by simpa using hk)
    · rw [show goInt ((List.range m).map f).length = goInt m by simp]
      refine h _ ⟨_, setRow_heap w g _ _ t _ hg, ?_, ?_⟩ ⟨rfl, rfl, rfl, by simp [World.setRow], fun k hk => setRow_other w g k _ hk⟩
      · simp; omega
      · intro i hi
        simp only [List.take_zero, List.nil_append, List.length_map, List.length_range, Nat.zero_add, List.getElem?_toArray]
        by_cases hl : i < m
        · rw [List.getElem?_append_left (by simpa using hl), if_pos hl]
          simp [hl]
        · rw [List.getElem?_append_right (by simpa using hl), if_neg hl]
          simp only [List.length_map, List.length_range, List.getElem?_drop]
          rw [show m + (i - m) = i by omega]
          have := hcur i hi
          simpa using this

end Go.Proofs.Qxb6602115a
