import Derived.Test.Qxb6602115aLeaf
import Derived.Test.Qxb6602115aClone
namespace Go.Proofs.Qxb6602115a
open Go.RowKit
open Pl

theorem info4 : (Try.prog.info? 4).map (fun i => (i.zero, i.size, i.bytes)) = some (some (.bool false), 1, 1) := by kernel_rfl

/-- The classes laid so far. -/
def clsTo (z : Nat → Int) (k : Nat) (i : Nat) : Value := .bool (if i < k then st z (i + 1) else false)

theorem clsTo_step {g n k : Nat} {z : Nat → Int} {w : World} (h : w.rowIs g 4 n (clsTo z k)) (v : Bool) (hv : v = st z (k + 1)) :
    (w.setCell ⟨g, k, none⟩ (.bool v)).rowIs g 4 n (clsTo z (k + 1)) := by
  refine (h.set k (.bool v)).congr fun i hi => ?_
  subst hv
  unfold clsTo
  by_cases e : i = k
  · subst e; simp
  · rw [if_neg e]
    by_cases h2 : i < k
    · rw [if_pos h2, if_pos (by omega)]
    · rw [if_neg h2, if_neg (by omega)]

theorem par1 (m : Nat) : (((m : Int) + 1) % 2 == 0) = decide ((m + 1) % 2 = 0) := by
  rw [Bool.eq_iff_iff]; simp; omega
theorem par2 (m r : Nat) (h : r + 1 < m + 1) (v : Bool) : (((r : Int) + 1 == 0 || v) == (((m : Int) + 1 - ((r : Int) + 1)) % 2 == 0)) = (v == decide ((m - r) % 2 = 0)) := by
  have e1 : ((r : Int) + 1 == 0) = false := by simp; omega
  have e2 : (((m : Int) + 1 - ((r : Int) + 1)) % 2 == 0) = decide ((m - r) % 2 = 0) := by rw [Bool.eq_iff_iff]; simp; omega
  rw [e1, e2, Bool.false_or]

set_option maxHeartbeats 800000 in
theorem classes_any (a : Option Addr) (b off n c : Nat) (z : Nat → Int) (w : World) (hn : n ≤ 1048576) (ha : 0 < n → a = some ⟨b, off, none⟩)
    (hc : ∀ k, k < n → w.cell? ⟨b, off + k, none⟩ = some (.int .u8 (z k))) :
    Calls Try.prog 13 #[.slice a n c] w fun e w' => Fresh 4 n (fun i => .bool (st z (i + 1))) w e w' := by
  have hmk := run_make_row' (P := Try.prog) 26 4 (.bool false) 1 Try.underlying26 info4 rfl .i64 .i64 n (by omega) (by omega)
  have hbl : ∀ k, k < n → b < w.heap.size := fun k hk => World.block_lt_of_cell? w _ (hc k hk)
  go_enter Try.func13, Try.ntmps13
  go_wp2
  go_loopw [4, 5] (fun p j wr => ∃ k q : Nat, k ≤ n ∧ j = .int .i64 k ∧ p = .int .i64 q ∧ Run z k q ∧ wr.rowIs w.heap.size 4 n (clsTo z k) ∧ Below w.heap.size w wr) (fun _ j _ => n - (intOf j).toNat)
  case atStart => exact ⟨0, 0, Nat.zero_le _, rfl, rfl, Run.zero z, (World.rowIs_made w (.bool false) n 4).congr (fun i _ => rfl), (Below.refl _ _).alloc (Nat.le_refl _) _⟩
  case round =>
    obtain ⟨k, q, hk, rfl, rfl, hrun, hrow, hbel⟩ := hrel
    clear hmk
    by_cases hlt : k < n
    · obtain rfl := ha (by omega)
      have hcell : ∀ j, j < n → wr.cell? ⟨b, off + j, none⟩ = some (.int .u8 (z j)) := fun j hj => (hbel.cell (p := ⟨b, off + j, none⟩) (hbl j hj)).trans (hc j hj)
      have hck := hcell k hlt
      have hgk := hrow.cell hlt
      have hfk := hrow.frozen k
      have RUN : Hid (Run z k q) := hrun
      have HC : Hid (∀ j, j < n → wr.cell? ⟨b, off + j, none⟩ = some (.int .u8 (z j))) := hcell
      have hq : q ≤ k := hrun.1
      clear hc hbl ha hcell hrun
      by_cases hy : z k = 121
      · have HY : Hid (z k = 121) := hy
        rw [hy] at hck
        clear hy
        by_cases hk0 : k = 0
        · subst hk0
          rw [Nat.add_zero] at hck
          have EV := (Run.opens (z := z) HY.out (.inl rfl))
          go_wp2_with fail
          go_roundw
          case rel => exact ⟨0 + 1, 0, by omega, by go_num, by go_num, EV.2, clsTo_step hrow _ (by rw [EV.1]; simp), hbel.setCell (Nat.le_refl _) _⟩
          case measure => simp [intOf]; omega
        · have hkb : ((k : Int) == 0) = false := by simp; omega
          obtain ⟨m, rfl⟩ : ∃ m, k = m + 1 := ⟨k - 1, by omega⟩
          have hcm := HC.out m (by omega)
          by_cases hym : z m = 121
          · have HYM : Hid (z m = 121) := hym
            have EV := (Run.goes RUN.out HY.out (by omega) HYM.out)
            rw [hym] at hcm
            clear hym
            by_cases hq0 : q = 0
            · subst hq0
              go_wp2_with fail
              go_roundw
              case rel => exact ⟨m + 1 + 1, 0, by omega, by go_num, by go_num, EV.2.1, clsTo_step hrow _ (by rw [EV.1]; simp [par1]), hbel.setCell (Nat.le_refl _) _⟩
              case measure => simp [intOf]; omega
            · have hqb : ((q : Int) == 0) = false := by simp; omega
              obtain ⟨r, rfl⟩ : ∃ r, q = r + 1 := ⟨q - 1, by omega⟩
              have hcr := HC.out r (by omega)
              go_wp2_with (go_at_call 38; refine (vowel_any _ _).mono ?_; rintro e w' ⟨rfl, rfl⟩)
              go_roundw
              case rel => exact ⟨m + 1 + 1, r + 1, by omega, by go_num, by go_num, EV.2.1, clsTo_step hrow _ (by rw [EV.1]; simp [par2 m r EV.2.2]), hbel.setCell (Nat.le_refl _) _⟩
              case measure => simp [intOf]; omega
          · have hymb : (z m != 121) = true := by simp [hym]
            have EV := (Run.opens (z := z) (j := m + 1) HY.out (.inr hym))
            clear hym
            go_wp2_with (go_at_call 38; refine (vowel_any _ _).mono ?_; rintro e w' ⟨rfl, rfl⟩)
            go_roundw
            case rel => exact ⟨m + 1 + 1, m + 1, by omega, by go_num, by go_num, EV.2, clsTo_step hrow _ (by rw [EV.1]; simp; omega), hbel.setCell (Nat.le_refl _) _⟩
            case measure => simp [intOf]; omega
      · have hyb : (z k != 121) = true := by simp [hy]
        have EV := Run.other RUN.out hy
        clear hy
        go_wp2_with (go_at_call 38; refine (vowel_any _ _).mono ?_; rintro e w' ⟨rfl, rfl⟩)
        go_roundw
        case rel => exact ⟨k + 1, q, by omega, by go_num, by go_num, EV.1, clsTo_step hrow _ EV.2.symm, hbel.setCell (Nat.le_refl _) _⟩
        case measure => simp [intOf]; omega
    · obtain rfl : k = n := by omega
      go_wp2_with fail
      go_ret
      exact ⟨_, _, rfl, fun _ => rfl, Nat.le_refl _, fun _ => hrow.congr (fun i hi => by simp [clsTo, hi]), hbel⟩
end Go.Proofs.Qxb6602115a
