/- THE HEAD OF THE DUMP, SIGN BY SIGN: so that the kernel need not read the long string anew for each closed fact (each such reading took 7 GB). Written by program off the dump's own head. -/
import Derived.Test.Qxb6602115aRows
import Derived.JoinedOf
import Derived.KernelRfl
namespace Go.Proofs.Qxb6602115a
set_option maxRecDepth 100000

def headSigns : List Char := List.map Char.ofNat [
  104, 97, 114, 110, 101, 115, 115, 32, 97, 55, 100, 56, 49, 100, 51, 52, 99, 102, 55, 52, 55, 102, 99, 100, 56, 54, 49, 98, 49, 48, 52, 54, 54, 56, 56, 55, 100, 99, 53, 49,
  52, 99, 56, 97, 49, 54, 54, 97, 48, 98, 97, 57, 52, 56, 101, 52, 48, 51, 48, 49, 98, 98, 52, 53, 53, 55, 57, 50, 98, 51, 99, 97, 32, 99, 117, 116, 32, 97, 116, 32,
  101, 120, 97, 109, 112, 108, 101, 46, 99, 111, 109, 47, 105, 110, 118, 105, 103, 105, 108, 97, 116, 111, 114, 47, 105, 110, 118, 105, 103, 105, 108, 97, 116, 111, 114, 47, 122, 122, 108, 97,
  119, 115, 95, 105, 110, 116, 101, 114, 110, 97, 108, 95, 114, 111, 117, 103, 101, 95, 98, 49, 46, 70, 110, 83, 116, 101, 112, 49, 98, 77, 97, 116, 99, 104, 101, 115, 80, 111, 114, 116,
  101, 114, 82, 117, 108, 101, 115, 32, 101, 120, 97, 109, 112, 108, 101, 46, 99, 111, 109, 47, 105, 110, 118, 105, 103, 105, 108, 97, 116, 111, 114, 47, 105, 110, 118, 105, 103, 105, 108, 97,
  116, 111, 114, 47, 122, 122, 108, 97, 119, 115, 95, 105, 110, 116, 101, 114, 110, 97, 108, 95, 114, 111, 117, 103, 101, 95, 98, 49, 46, 70, 110, 83, 116, 101, 112, 49, 98, 67, 117, 116,
  115, 65, 116, 77, 111, 115, 116, 70, 111, 117, 114, 65, 110, 100, 65, 100, 100, 115, 79, 110, 108, 121, 69, 32, 101, 120, 97, 109, 112, 108, 101, 46, 99, 111, 109, 47, 105, 110, 118, 105,
  103, 105, 108, 97, 116, 111, 114, 47, 105, 110, 118, 105, 103, 105, 108, 97, 116, 111, 114, 47, 122, 122, 108, 97, 119, 115, 95, 105, 110, 116, 101, 114, 110, 97, 108, 95, 114, 111, 117, 103,
  101, 95, 98, 49, 46, 70, 110, 83, 116, 101, 112, 49, 98, 76, 101, 97, 118, 101, 115, 87, 111, 114, 100, 115, 87, 105, 116, 104, 111, 117, 116, 69, 100, 79, 114, 73, 110, 103, 87, 104,
  111, 108, 101, 32, 101, 120, 97, 109, 112, 108, 101, 46, 99, 111, 109, 47, 105, 110, 118, 105, 103, 105, 108, 97, 116, 111, 114, 47, 105, 110, 118, 105, 103, 105, 108, 97, 116, 111, 114, 47,
  122, 122, 108, 97, 119, 115, 95, 105, 110, 116, 101, 114, 110, 97, 108, 95, 114, 111, 117, 103, 101, 95, 98, 49, 46, 70, 110, 69, 110, 100, 115, 67, 86, 67, 77, 97, 116, 99, 104, 101,
  115, 76, 101, 116, 116, 101, 114, 67, 108, 97, 115, 115, 101, 115, 32, 101, 120, 97, 109, 112, 108, 101, 46, 99, 111, 109, 47, 105, 110, 118, 105, 103, 105, 108, 97, 116, 111, 114, 47, 105,
  110, 118, 105, 103, 105, 108, 97, 116, 111, 114, 47, 122, 122, 108, 97, 119, 115, 95, 105, 110, 116, 101, 114, 110, 97, 108, 95, 114, 111, 117, 103, 101, 95, 98, 49, 46, 70, 110, 69, 110,
  100, 115, 67, 86, 67, 73, 103, 110, 111, 114, 101, 115, 76, 101, 116, 116, 101, 114, 115, 66, 101, 102, 111, 114, 101, 84, 104, 101, 76, 97, 115, 116, 84, 104, 114, 101, 101, 32, 101, 120,
  97, 109, 112, 108, 101, 46, 99, 111, 109, 47, 105, 110, 118, 105, 103, 105, 108, 97, 116, 111, 114, 47, 105, 110, 118, 105, 103, 105, 108, 97, 116, 111, 114, 47, 122, 122, 108, 97, 119, 115,
  95, 105, 110, 116, 101, 114, 110, 97, 108, 95, 114, 111, 117, 103, 101, 95, 98, 49, 46, 70, 110, 82, 101, 115, 101, 116, 67, 111, 117, 110, 116, 115, 69, 118, 101, 114, 121, 68, 105, 115,
  116, 105, 110, 99, 116, 71, 114, 97, 109, 79, 110, 99, 101, 32, 101, 120, 97, 109, 112, 108, 101, 46, 99, 111, 109, 47, 105, 110, 118, 105, 103, 105, 108, 97, 116, 111, 114, 47, 105, 110,
  118, 105, 103, 105, 108, 97, 116, 111, 114, 47, 122, 122, 108, 97, 119, 115, 95, 105, 110, 116, 101, 114, 110, 97, 108, 95, 114, 111, 117, 103, 101, 95, 98, 49, 46, 70, 110, 82, 101, 115,
  101, 116, 80, 117, 116, 115, 69, 118, 101, 114, 121, 71, 114, 97, 109, 79, 110, 73, 116, 115, 80, 114, 111, 98, 101, 80, 97, 116, 104]

theorem head_eq : Try.prog.initOrder = String.ofList headSigns := by kernel_rfl
theorem head_toList : Try.prog.initOrder.toList = headSigns := by rw [head_eq]; exact String.toList_ofList

theorem head_cut : (behindMainWord (wordsSigns headSigns)).head? = some ['c', 'u', 't'] := by kernel_rfl
theorem cons_of_head {α : Type} {l : List α} {a : α} (h : l.head? = some a) : l = a :: l.tail := by
  cases l with
  | nil => cases h
  | cons x xs => simp at h; rw [h]; rfl
theorem head_words : behindMainWord (wordsSigns Try.prog.initOrder.toList) = ['c', 'u', 't'] :: (behindMainWord (wordsSigns headSigns)).tail := by
  rw [head_toList]
  exact cons_of_head head_cut
theorem cut_gc : (['c', 'u', 't'] == "gc".toList) = false := by kernel_rfl
theorem cut_spec : (['c', 'u', 't'] == "spec".toList) = false := by kernel_rfl
theorem cut_cut : (['c', 'u', 't'] == "cut".toList) = true := by kernel_rfl
theorem cut_carried : (['c', 'u', 't'] == "carried".toList) = false := by kernel_rfl
theorem strip_cut (r : List (List Char)) : stripLifts liftWords (['c', 'u', 't'] :: r) = ([], ['c', 'u', 't'] :: r) := by kernel_rfl

/-! OVER A PROGRAM THAT IS A VARIABLE: so that nothing is evaluated here. -/
theorem make_of {P : Program} {r : List (List Char)} (h : behindMainWord (wordsSigns P.initOrder.toList) = ['c', 'u', 't'] :: r) : P.make = some .cut := by
  unfold Program.make
  rw [h]
  simp only [cut_gc, cut_spec, cut_cut, Bool.or_false, Bool.true_or, Bool.false_eq_true, if_false, if_true]
theorem mayEnter_of {P : Program} {r : List (List Char)} (h : behindMainWord (wordsSigns P.initOrder.toList) = ['c', 'u', 't'] :: r)
    (h1 : P.laysLater = false) (h2 : P.bearsReflect = false) (h3 : P.doorFits [] = true) : P.mayEnter = true := by
  unfold Program.mayEnter
  rw [h]
  simp only [strip_cut, cut_gc, cut_spec, cut_carried, h1, h2, h3, List.head?_cons]
  have e : (some ['c', 'u', 't'] == some "cut".toList) = true := by kernel_rfl
  rw [e]
  rfl
theorem lifts_of {P : Program} {r : List (List Char)} (h : behindMainWord (wordsSigns P.initOrder.toList) = ['c', 'u', 't'] :: r) : P.liftsFinal = false := by
  unfold Program.liftsFinal Program.headLifts
  rw [h]
  have e : (some ['c', 'u', 't'] == some "cut".toList) = true := by kernel_rfl
  have e2 : (some ['c', 'u', 't'] == some "carried".toList) = false := by kernel_rfl
  simp only [strip_cut, List.head?_cons, e, e2, if_true, Bool.false_and, Bool.false_or]
  rfl

theorem head_later : Try.prog.laysLater = false := by kernel_rfl
theorem head_refl : Try.prog.bearsReflect = false := by kernel_rfl
theorem head_door : Try.prog.doorFits [] = true := by kernel_rfl
theorem head_make : Try.prog.make = some .cut := make_of head_words
theorem head_mayEnter : Try.prog.mayEnter = true := mayEnter_of head_words head_later head_refl head_door
theorem head_lifts : Try.prog.liftsFinal = false := lifts_of head_words

end Go.Proofs.Qxb6602115a
