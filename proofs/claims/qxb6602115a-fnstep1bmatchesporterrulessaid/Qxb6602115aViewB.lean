import Derived.Test.Qxb6602115aView
import Derived.OpenShut
namespace Go.Proofs.Qxb6602115a
open Go.RowKit Go.ChangeShapes Go.WideShapes Go.ChangeAt

/-- Each byte of a slice of bytes that came in is a byte. -/
theorem view_u8 {w : World} {a : Option Addr} {len cap : Nat} {zs : List Int}
    (h : (a = none ∧ len = 0 ∧ cap = 0 ∧ zs = []) ∨
      ∃ x, a = some x ∧ len ≤ cap ∧ cap ≤ maxLen ∧ zs.length = cap ∧ (∀ i, i < zs.length → w.cell? (x.add i) = some (.int .u8 (zs.getD i 0))) ∧ ∀ n ∈ zs, (Lit.int .u8 n).wf = true) :
    ∀ j, j < len → 0 ≤ zs.getD j 0 ∧ zs.getD j 0 ≤ 255 := by
  rcases h with ⟨rfl, rfl, rfl, rfl⟩ | ⟨x, rfl, hl, hm, hz, hc, hw⟩
  · intro j h; omega
  · intro j _
    have := range_u8 hw j
    simpa using this

end Go.Proofs.Qxb6602115a
