/- ONE ELEMENT APPENDED WITHIN THE CAPACITY OF AN OWN ROW, THE ROW KNOWN WHOLE. No program. -/
import Derived.Test.Qxb6602115aMem
import Derived.OwnWalk
import Derived.WalkKit
namespace Go.Proofs.Qxb6602115a
open Go.RowKit

theorem wpList_append_one {P : Program} {w : World} {ops : Array Oper} {rest : List Oper} {o : Oper} {a : Act} {Q : Exit → Act → World → Prop}
    (hgd : o.guard = none) (s x : Operand) (t : TypeId) (hop : o.op = Op.call { callee := Callee.builtin Builtin.append, args := #[s, x], argTypes := #[t, t] })
    (e : TypeId) (i : TypeInfo) (ht : P.underlying t = some (.slice e)) (hi : P.info? e = some i) (hsz : i.size = 1)
    (g k cap N : Nat) (f : Nat → Value) (hs : a.eval s = .slice (some ⟨g, 0, none⟩) k cap) (hrow : w.rowIs g e N f) (ad : Addr) (c : Nat) (u : Value) (hx : a.eval x = .slice (some ad) 1 c)
    (hc : w.cell? ad = some u) (h1c : u.oneCell' = true) (hroom : k + 1 ≤ cap) (hfit : k + 1 ≤ N)
    (h : ∀ w', w'.rowIs g e N (fun j => if j = k then u else f j) → Only g w w' → wpList P ops Q rest (a.put o.dst (.slice (some ⟨g, 0, none⟩) (k + 1) cap)) w') :
    wpList P ops Q (o :: rest) a w := by
  obtain ⟨cur, hg, hN, hcur⟩ := hrow
  have hspot := World.cell?_spot hc
  have hrun := run_append_room (P := P) w t o.type e i ht hi g k cap cur hg ad 1 c [u] (by simp [hsz]) (by
    intro j v hj
    match j, hj with
    | 0, hj =>
      simp at hj; subst hj
      obtain ⟨b, off, sp⟩ := ad
      simp only at hspot
      subst hspot
      rw [Addr.add_lit]; exact hc) (by simpa using h1c) hroom (by rw [hsz]; simp; omega)
  rw [hsz, Nat.mul_one] at hrun
  refine wpList_plain hgd fun K hK' => ?_
  unfold Oper.wp
  simp only [execOp, hop, resolve, invoke, builtin]
  simp [hs, hx, hrun, Result.andThen]
  refine hK' _ _ (h _ ⟨(cur.toList.take k ++ u :: cur.toList.drop (k + 1)).toArray, ?_, ?_, ?_⟩ ⟨rfl, rfl, rfl, by simp [World.setRow], fun j hj => setRow_other w g j _ hj⟩)
  · exact setRow_heap w g _ _ e _ hg
  · simp; omega
  · intro j hj
    simp only [List.getElem?_toArray]
    have hc2 := hcur j hj
    by_cases h1 : j < k
    · rw [List.getElem?_append_left (by simp; omega), if_neg (by omega)]
      simp [h1]
      simpa using hc2
    · rw [List.getElem?_append_right (by simp; omega)]
      simp only [List.length_take, Array.length_toList]
      rw [Nat.min_eq_left (by omega)]
      by_cases h2 : j = k
      · subst h2; simp
      · rw [if_neg h2, show j - k = (j - k - 1) + 1 by omega, List.getElem?_cons_succ, List.getElem?_drop, show k + 1 + (j - k - 1) = j by omega]
        simpa using hc2

end Go.Proofs.Qxb6602115a
