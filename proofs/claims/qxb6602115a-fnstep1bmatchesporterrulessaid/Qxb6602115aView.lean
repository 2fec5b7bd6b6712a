import Derived.Test.Qxb6602115aMem
import Derived.WalkKit
import Derived.ProofKit
namespace Go.Proofs.Qxb6602115a
open Go.RowKit Go.ChangeShapes Go.WideShapes Go.ChangeAt

/-- What a walk asks of a slice of integers that came in. -/
theorem view_row {k : IntKind} {w : World} {a : Option Addr} {len cap : Nat} {zs : List Int}
    (h : (a = none ∧ len = 0 ∧ cap = 0 ∧ zs = []) ∨
      ∃ x, a = some x ∧ len ≤ cap ∧ cap ≤ maxLen ∧ zs.length = cap ∧ (∀ i, i < zs.length → w.cell? (x.add i) = some (.int k (zs.getD i 0))) ∧ ∀ n ∈ zs, (Lit.int k n).wf = true) :
    ∃ b off, (a = none → len = 0 ∧ cap = 0) ∧ (0 < len → a = some ⟨b, off, none⟩) ∧ (∀ j, j < len → w.cell? ⟨b, off + j, none⟩ = some (.int k (zs.getD j 0))) := by
  rcases h with ⟨rfl, rfl, rfl, rfl⟩ | ⟨x, rfl, hl, hm, hz, hc, _⟩
  · exact ⟨0, 0, fun _ => ⟨rfl, rfl⟩, fun h => absurd h (by omega), fun j h => absurd h (by omega)⟩
  · obtain ⟨b, off, spot⟩ := x
    by_cases h0 : len = 0
    · subst h0
      exact ⟨0, 0, fun h => by simp at h, fun h => absurd h (by omega), fun j h => absurd h (by omega)⟩
    · have hspot : spot = none := by simpa [Addr.add] using World.cell?_spot (hc 0 (by omega))
      subst hspot
      exact ⟨b, off, fun h => by simp at h, fun _ => rfl, fun j hj => by have := hc j (by omega); rwa [Addr.add_lit] at this⟩

end Go.Proofs.Qxb6602115a
