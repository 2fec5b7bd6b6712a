/-
  The proof of 'Rows.FnResetCountsEveryDistinctGramOnceSaid': the frame after the shells of this seat (howto/template/XProofs.lean), for a slice of strings, a slice of uint64 and an int; the walk is 'lawCounts'.
-/
import Derived.Test.Qxb6602115aRows
import Derived.WalkKit
import Derived.ProofKit
import Derived.OpenShut
import Derived.ShutString
import Derived.SliceStrings
import Derived.ChangeOld
import Derived.Below
import Derived.Test.Qxb6602115aLawCounts
import Derived.Test.Qxb6602115aHead
namespace Go.Proofs.Qxb6602115a.fnResetCountsEveryDistinctGramOnce
open Go.ChangeShapes Go.WideShapes Go.ChangeAt Go.RowKit
open Go.ChangeMaps (open_string shut_string)
set_option linter.unusedVariables false

theorem own : ownKnob Try.prog.godebug = none := by kernel_rfl
theorem laidOut : laidOutB Try.prog = true := by kernel_rfl

/-- What the walk is told of a slice of cells that came in. -/
def IsCells (w : World) (a : Option Addr) (len cap : Nat) (f : Nat → Value) : Prop :=
  ∃ b off, (a = none → len = 0 ∧ cap = 0) ∧ (0 < len → a = some ⟨b, off, none⟩) ∧ len ≤ maxLen ∧ ∀ j, j < len → w.cell? ⟨b, off + j, none⟩ = some (f j)

theorem isCells_nil (w : World) (f : Nat → Value) : IsCells w none 0 0 f := ⟨0, 0, fun _ => ⟨rfl, rfl⟩, fun h => absurd h (by omega), by unfold maxLen; omega, fun j h => absurd h (by omega)⟩
theorem isCells_some {w : World} {x : Addr} {len cap : Nat} {f : Nat → Value} (hl : len ≤ cap) (hm : cap ≤ maxLen) (hc : ∀ i, i < len → w.cell? (x.add i) = some (f i)) : IsCells w (some x) len cap f := by
  obtain ⟨b, off, spot⟩ := x
  by_cases h0 : len = 0
  · subst h0
    exact ⟨0, 0, fun h => by simp at h, fun h => absurd h (by omega), by omega, fun j h => absurd h (by omega)⟩
  · have hspot : spot = none := by simpa [Addr.add] using World.cell?_spot (hc 0 (by omega))
    subst hspot
    exact ⟨b, off, fun h => by simp at h, fun _ => rfl, by omega, fun j hj => by have := hc j hj; rwa [Addr.add_lit] at this⟩

theorem walk (a0 a1 : Option Addr) (len0 cap0 len1 cap1 : Nat) (n : Int) (T : Nat → ByteArray) (H : Nat → Nat) (w : World) (w0 : IsCells w a0 len0 cap0 (fun j => .string (T j))) (w1 : IsCells w a1 len1 cap1 (fun j => .int .u64 (H j)))
    (hH : ∀ j, H j < 18446744073709551616) (w2 : (Lit.int .i64 n).wf = true) :
    Calls Try.prog 8 #[.slice a0 len0 cap0, .slice a1 len1 cap1, .int .i64 n] w fun e w' => e = .returned (.bool true) ∧ Below w.heap.size w w' := by
  obtain ⟨b, off, hnil, ha, hm, hc⟩ := w0
  obtain ⟨b2, off2, hnil2, ha2, hm2, hc2⟩ := w1
  unfold maxLen at hm hm2
  exact lawCounts a0 a1 b off b2 off2 len0 len1 cap0 cap1 n T H w hm hm2 (bounds_i64 w2).2 hnil hnil2 ha ha2 hc hc2 (fun k _ => hH k)

set_option maxRecDepth 100000 in
theorem lifted (os : Os) (started : os.Started) (H : Type) (enc : TypeId × Value → H) :
    ReturnsInHanded {} Try.checked os 8 .any (Rows.fnResetCountsEveryDistinctGramOnceSpec.pre6 enc Try.prog Try.f8 Rows.fnResetCountsEveryDistinctGramOnceRow.domain false) (Rows.fnResetCountsEveryDistinctGramOnceSpec.post enc Try.prog Try.f8 false true false false) := by
  refine returnsInHanded_of_change (C := Try.checked) own started (by kernel_rfl) Try.func8
    (ChangeSpec.witness6 (enc := enc) (C := Try.checked) false ⟨#[], #[.slice none 0 0, .slice none 0 0, .int .i64 0], []⟩ 8 (by kernel_rfl) (by kernel_rfl) (by kernel_rfl) (by kernel_rfl)) ?_
  intro W base args ds gs before hval0 hW hcnd _
  have hval : ∀ (j : Nat) t v, Try.f8.params[j]? = some t → args[j]? = some v → Value.okWide Try.prog W .any base t v := hval0
  have hW' := hW
  obtain ⟨p, q, hA0, hV, rfl, hfz, hnd⟩ := hW
  have hA : DataW.TrodAll enc Try.prog W 0 (fun _ => true) true Try.f8.params.toList args.toList ds p := hA0
  rw [Try.params8] at hA hval
  obtain ⟨v0, vs0, d0, ds0, p0, q0, hargs, rfl, rfl, h0, r0⟩ := trodAll_cons hA
  obtain ⟨v1, vs1, d1, ds1, p1, q1, rfl, rfl, rfl, h1, r1⟩ := trodAll_cons r0
  obtain ⟨v2, vs2, d2, ds2, p2, q2, rfl, rfl, rfl, h2, r2⟩ := trodAll_cons r1
  obtain ⟨rfl, rfl, rfl⟩ := trodAll_nil r2
  obtain rfl : args = #[v0, v1, v2] := by cases args; simp_all
  obtain ⟨rfl, rfl⟩ := trodVars_none hV
  obtain ⟨a0, len0, cap0, rfl⟩ := okWide_slice Try.underlying31 (hval 0 31 v0 rfl rfl)
  obtain ⟨a1, len1, cap1, rfl⟩ := okWide_slice Try.underlying32 (hval 1 32 v1 rfl rfl)
  obtain ⟨n, rfl, rfl, rfl, w2⟩ := open_int Try.underlying3 (hval 2 3 v2 rfl rfl) h2
  have k0 := h0
  have lt0 : ∀ x ∈ p0, x.block < W.heap.size := by obtain ⟨m, hm⟩ := k0; exact DataW.trod_lt m _ _ _ hm
  have k1 := h1
  have lt1 : ∀ x ∈ p1, x.block < W.heap.size := by obtain ⟨m, hm⟩ := k1; exact DataW.trod_lt m _ _ _ hm
  obtain ⟨T, w0⟩ : ∃ T : Nat → ByteArray, IsCells W a0 len0 cap0 (fun j => .string (T j)) := by
    obtain ⟨fuel, hf⟩ := h0
    rcases open_strings Try.underlying31 Try.underlying9 (by kernel_rfl) hf with ⟨hcs, _⟩ | ⟨x, l, c, ss, hcs, _, hl, hm, hz, _, hcell, _⟩
    · simp [Value.cells] at hcs
      obtain ⟨rfl, rfl, rfl⟩ := hcs
      exact ⟨fun _ => ByteArray.empty, isCells_nil _ _⟩
    · simp [Value.cells] at hcs
      obtain ⟨rfl, rfl, rfl⟩ := hcs
      have hzl : ss.length = cap0 := by simpa using hz
      exact ⟨fun j => ss.getD j ByteArray.empty, isCells_some hl hm (fun i hi => hcell i (by omega))⟩
  obtain ⟨Hs, w1, hH⟩ : ∃ Hs : Nat → Nat, IsCells W a1 len1 cap1 (fun j => .int .u64 (Hs j)) ∧ ∀ j, Hs j < 18446744073709551616 := by
    obtain ⟨fuel, hf⟩ := h1
    rcases open_ints Try.underlying32 Try.underlying42 (by kernel_rfl) hf with ⟨hcs, _⟩ | ⟨x, l, c, zs, hcs, _, hl, hm, hz, _, hcell, hwz⟩
    · simp [Value.cells] at hcs
      obtain ⟨rfl, rfl, rfl⟩ := hcs
      exact ⟨fun _ => 0, isCells_nil _ _, fun _ => by show 0 < 18446744073709551616; omega⟩
    · simp [Value.cells] at hcs
      obtain ⟨rfl, rfl, rfl⟩ := hcs
      have hzl : zs.length = cap1 := by simpa using hz
      have hr : ∀ j, 0 ≤ zs.getD j 0 ∧ zs.getD j 0 ≤ 18446744073709551615 := fun j => by have := range_u64 hwz j; simpa using this
      refine ⟨fun j => (zs.getD j 0).toNat, isCells_some hl hm (fun i hi => ?_), fun j => by have := hr j; show (zs.getD j 0).toNat < 18446744073709551616; omega⟩
      rw [hcell i (by omega), show (((zs.getD i 0).toNat : Nat) : Int) = zs.getD i 0 from Int.toNat_of_nonneg (hr i).1]
  clear hA0 hval0
  refine (walk a0 a1 len0 cap0 len1 cap1 n T Hs W w0 w1 hH w2).mono fun e W' ⟨he, bel⟩ => ?_
  subst he
  exact ⟨_, rfl, _, _, _, [], _, [], hW', trodAll_mk1 (shut_bool Try.underlying4 _), (trodAll_cons_mk (Below.trod laidOut (by kernel_rfl) (of_decide_eq_true (by kernel_rfl)) k0 bel lt0) (trodAll_cons_mk (Below.trod laidOut (by kernel_rfl) (of_decide_eq_true (by kernel_rfl)) k1 bel lt1) (trodAll_cons_mk (shut_int Try.underlying3 w2) trodAll_mk0))), rfl, bel.frame _, fun h => by cases h⟩

set_option maxRecDepth 100000 in
theorem closed : joinedFacts Try.prog 8 Try.f8 Rows.fnResetCountsEveryDistinctGramOnceSpec Rows.fnResetCountsEveryDistinctGramOnceRow = true := by
  unfold joinedFacts
  rw [head_mayEnter, head_make, head_lifts]
  kernel_rfl

theorem over : Rows.fnResetCountsEveryDistinctGramOnceRow.holds Try.pinned (OpenSpec.ofChange Rows.fnResetCountsEveryDistinctGramOnceSpec) :=
  OpenClaim.holds_of_wide 8 Try.f8 rfl rfl rfl rfl rfl rfl rfl ⟨rfl, rfl, rfl, rfl, rfl⟩ rfl rfl rfl rfl rfl (by kernel_rfl) Try.func8 closed
    (of_decide_eq_true (by kernel_rfl)) (by unfold Func.isWrapper; first | (rw [if_pos (by decide +kernel)]; kernel_rfl) | (rw [if_neg (by decide +kernel)]; exact ⟨rfl, rfl⟩))
    (fun os started H enc _ => lifted os started H enc)

/-- THE STATEMENT -/
theorem proved : Rows.FnResetCountsEveryDistinctGramOnceSaid := over
#print axioms proved
end Go.Proofs.Qxb6602115a.fnResetCountsEveryDistinctGramOnce
