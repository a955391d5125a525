/-
  The head of the program's dump, read once: what three closed facts ('mayEnter', 'liftsFinal', 'make') ask of it, so that the kernel need not read the string for each of them. The laws are said of any program and used at this one.
-/
import Derived.Test.Qxb6602992aRows
import Derived.ProofKit
namespace Go.Proofs.Qxb6602992a
open Go.RowKit

/-- The head's signs, by their numbers. -/
def headSigns : List Char := ([104, 97, 114, 110, 101, 115, 115, 32, 51, 51, 100, 53, 52, 100, 51, 101, 56, 99, 99, 55, 98, 98, 55, 53, 50, 97, 56, 48, 48, 50, 102, 100, 54, 50, 50, 54, 52, 52, 98, 102, 101, 49, 99, 101, 56, 48, 100, 101, 98, 50, 97, 97, 56, 102, 48, 100, 99, 57, 51, 55, 55, 99, 57, 48, 52, 100, 100, 100, 102, 98, 102, 57, 32, 99, 117, 116, 32, 97, 116, 32, 101, 120, 97, 109, 112, 108, 101, 46, 99, 111, 109, 47, 99, 111, 116, 101, 114, 105, 101, 47, 99, 111, 116, 101, 114, 105, 101, 47, 122, 122, 108, 97, 119, 115, 95, 108, 97, 121, 101, 114, 95, 98, 49, 46, 70, 110, 82, 117, 110, 115, 65, 114, 101, 77, 97, 120, 105, 109, 97, 108, 67, 111, 110, 115, 101, 99, 117, 116, 105, 118, 101, 66, 108, 111, 99, 107, 115, 32, 101, 120, 97, 109, 112, 108, 101, 46, 99, 111, 109, 47, 99, 111, 116, 101, 114, 105, 101, 47, 99, 111, 116, 101, 114, 105, 101, 47, 122, 122, 108, 97, 119, 115, 95, 108, 97, 121, 101, 114, 95, 98, 49, 46, 70, 110, 82, 117, 110, 115, 82, 101, 97, 100, 66, 97, 99, 107, 65, 115, 84, 104, 101, 78, 117, 109, 98, 101, 114, 115, 70, 114, 111, 109, 79, 110, 32, 101, 120, 97, 109, 112, 108, 101, 46, 99, 111, 109, 47, 99, 111, 116, 101, 114, 105, 101, 47, 99, 111, 116, 101, 114, 105, 101, 47, 122, 122, 108, 97, 119, 115, 95, 108, 97, 121, 101, 114, 95, 98, 49, 46, 70, 110, 82, 117, 110, 115, 87, 114, 105, 116, 101, 115, 79, 110, 108, 121, 76, 105, 115, 116, 101, 100, 78, 117, 109, 98, 101, 114, 115, 70, 114, 111, 109, 79, 110, 32, 101, 120, 97, 109, 112, 108, 101, 46, 99, 111, 109, 47, 99, 111, 116, 101, 114, 105, 101, 47, 99, 111, 116, 101, 114, 105, 101, 47, 122, 122, 108, 97, 119, 115, 95, 108, 97, 121, 101, 114, 95, 98, 49, 46, 70, 110, 76, 97, 99, 107, 115, 77, 97, 116, 99, 104, 101, 115, 73, 116, 115, 67, 97, 115, 101, 84, 97, 98, 108, 101, 32, 101, 120, 97, 109, 112, 108, 101, 46, 99, 111, 109, 47, 99, 111, 116, 101, 114, 105, 101, 47, 99, 111, 116, 101, 114, 105, 101, 47, 122, 122, 108, 97, 119, 115, 95, 108, 97, 121, 101, 114, 95, 98, 49, 46, 70, 110, 76, 97, 99, 107, 115, 67, 111, 117, 110, 116, 115, 72, 101, 108, 100, 65, 110, 100, 65, 98, 111, 118, 101, 65, 108, 105, 107, 101, 32, 101, 120, 97, 109, 112, 108, 101, 46, 99, 111, 109, 47, 99, 111, 116, 101, 114, 105, 101, 47, 99, 111, 116, 101, 114, 105, 101, 47, 122, 122, 108, 97, 119, 115, 95, 108, 97, 121, 101, 114, 95, 98, 49, 46, 70, 110, 76, 97, 99, 107, 115, 78, 101, 118, 101, 114, 71, 114, 111, 119, 115, 87, 105, 116, 104, 87, 104, 97, 116, 84, 104, 101, 68, 105, 103, 101, 115, 116, 83, 97, 121, 115, 32, 101, 120, 97, 109, 112, 108, 101, 46, 99, 111, 109, 47, 99, 111, 116, 101, 114, 105, 101, 47, 99, 111, 116, 101, 114, 105, 101, 47, 122, 122, 108, 97, 119, 115, 95, 108, 97, 121, 101, 114, 95, 98, 49, 46, 70, 110, 72, 101, 108, 100, 77, 101, 115, 115, 97, 103, 101, 115, 75, 101, 101, 112, 76, 97, 115, 116, 80, 117, 116, 79, 102, 69, 97, 99, 104, 78, 117, 109, 98, 101, 114, 73, 110, 79, 114, 100, 101, 114, 32, 101, 120, 97, 109, 112, 108, 101, 46, 99, 111, 109, 47, 99, 111, 116, 101, 114, 105, 101, 47, 99, 111, 116, 101, 114, 105, 101, 47, 122, 122, 108, 97, 119, 115, 95, 108, 97, 121, 101, 114, 95, 98, 49, 46, 70, 110, 72, 101, 108, 100, 78, 117, 109, 98, 101, 114, 115, 68, 111, 78, 111, 116, 72, 97, 110, 103, 79, 110, 79, 114, 100, 101, 114, 79, 102, 80, 117, 116, 115, 32, 101, 120, 97, 109, 112, 108, 101, 46, 99, 111, 109, 47, 99, 111, 116, 101, 114, 105, 101, 47, 99, 111, 116, 101, 114, 105, 101, 47, 122, 122, 108, 97, 119, 115, 95, 108, 97, 121, 101, 114, 95, 98, 49, 46, 70, 110, 68, 105, 103, 101, 115, 116, 79, 102, 72, 101, 108, 100, 82, 117, 110, 115, 76, 97, 99, 107, 115, 74, 117, 115, 116, 87, 104, 97, 116, 73, 115, 78, 111, 116, 72, 101, 108, 100] : List Nat).map Char.ofNat
set_option maxRecDepth 100000 in
theorem head_is : Try.prog.initOrder = String.ofList headSigns := by kernel_rfl
set_option maxRecDepth 100000 in
theorem word_is : (behindMainWord (wordsSigns Try.prog.initOrder.toList)).head? = some "cut".toList := by
  rw [head_is, String.toList_ofList]
  kernel_rfl

/-- No lift is stripped off words that begin with 'cut'. -/
theorem strip_cut (ws : List (List Char)) (h : ws.head? = some "cut".toList) : stripLifts liftWords ws = ([], ws) := by
  cases ws with
  | nil => simp at h
  | cons c rest =>
    have hc : c = "cut".toList := by simpa using h
    subst hc
    unfold liftWords
    repeat rw [stripLifts, if_neg (by decide)]
    rw [stripLifts]
theorem lifts_of (P : Program) (h : (behindMainWord (wordsSigns P.initOrder.toList)).head? = some "cut".toList) : P.headLifts = [] := by
  unfold Program.headLifts
  rw [strip_cut _ h]
  simp [h]
theorem may_of (P : Program) (h : (behindMainWord (wordsSigns P.initOrder.toList)).head? = some "cut".toList) (h2 : P.laysLater = false) (h3 : P.bearsReflect = false) (h4 : P.doorFits [] = true) : P.mayEnter = true := by
  unfold Program.mayEnter
  generalize behindMainWord (wordsSigns P.initOrder.toList) = ws at h
  cases ws with
  | nil => simp at h
  | cons c rest =>
    simp only [strip_cut _ h, h, h2, h3, h4]
    simp
theorem final_of (P : Program) (h : (behindMainWord (wordsSigns P.initOrder.toList)).head? = some "cut".toList) : P.liftsFinal = false := by
  unfold Program.liftsFinal
  rw [lifts_of P h]
  simp [h]
theorem make_of (P : Program) (h : (behindMainWord (wordsSigns P.initOrder.toList)).head? = some "cut".toList) : P.make = some .cut := by
  unfold Program.make
  generalize behindMainWord (wordsSigns P.initOrder.toList) = ws at h
  cases ws with
  | nil => simp at h
  | cons c rest =>
    have hc : c = "cut".toList := by simpa using h
    subst hc
    simp

theorem may_enter : Try.prog.mayEnter = true := may_of Try.prog word_is (by kernel_rfl) (by kernel_rfl) (by kernel_rfl)
theorem lifts_final : Try.prog.liftsFinal = false := final_of Try.prog word_is
theorem make_is : Try.prog.make = some .cut := make_of Try.prog word_is

theorem both {a b : Bool} (h : a = true) (k : b = true) : (a && b) = true := by rw [h, k]; rfl
theorem beq_of {x y : Bool} (h : y = x) : (x == y) = true := by rw [h]; exact beq_self_eq_true _
theorem make_beq {x y : Option Make} (h : x = y) : (x == y) = true := by rw [h]; exact beq_self_eq_true _
end Go.Proofs.Qxb6602992a
